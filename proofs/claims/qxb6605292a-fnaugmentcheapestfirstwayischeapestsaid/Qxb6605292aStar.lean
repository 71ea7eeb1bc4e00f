/-
  The law's own network, by its pairs: first and next in closed form; one more pair.
-/
import Derived.Test.Qxb6605292aAdd
import Derived.Test.Qxb6605292aWant
import Derived.Test.Qxb6605292aBfs
namespace Go.Proofs.Qxb6605292a
open Go.RowKit

/-- The last arc before m that leaves x, or -1. -/
def lastB (ps : List Pr) (x : Nat) : Nat → Int
  | 0 => -1
  | m + 1 => if tailOf ps m = x then (m : Int) else lastB ps x m
def firstL (V : Nat) (ps : List Pr) : List Int := (List.range V).map fun x => lastB ps x (2 * ps.length)
def nextL (ps : List Pr) : List Int := (List.range (2 * ps.length)).map fun e => lastB ps (tailOf ps e) e
theorem tailOf_old (ps : List Pr) (p : Pr) {e : Nat} (h : e < 2 * ps.length) : tailOf (ps ++ [p]) e = tailOf ps e := by
  unfold tailOf
  have h1 : e / 2 < ps.length := by omega
  rw [List.getD_eq_getElem?_getD, List.getD_eq_getElem?_getD, List.getElem?_append_left h1]
theorem tailOf_even (ps : List Pr) (p : Pr) : tailOf (ps ++ [p]) (2 * ps.length) = p.a := by
  unfold tailOf
  have h1 : 2 * ps.length / 2 = ps.length := by omega
  rw [if_pos (by omega), h1]
  simp
theorem tailOf_odd (ps : List Pr) (p : Pr) : tailOf (ps ++ [p]) (2 * ps.length + 1) = p.b := by
  unfold tailOf
  have h1 : (2 * ps.length + 1) / 2 = ps.length := by omega
  rw [if_neg (by omega), h1]
  simp
theorem lastB_old (ps : List Pr) (p : Pr) (x : Nat) : ∀ m, m ≤ 2 * ps.length → lastB (ps ++ [p]) x m = lastB ps x m := by
  intro m
  induction m with
  | zero => intro _; rfl
  | succ m ih =>
    intro h
    unfold lastB
    rw [tailOf_old ps p (by omega), ih (by omega)]
theorem lastB_lt (ps : List Pr) (x : Nat) : ∀ m, -1 ≤ lastB ps x m ∧ lastB ps x m < m := by
  intro m
  induction m with
  | zero => unfold lastB; omega
  | succ m ih =>
    unfold lastB
    split <;> omega
/-- What lastB says. -/
theorem lastB_spec (ps : List Pr) (x : Nat) (m : Nat) : (lastB ps x m = -1 ∧ ∀ e, e < m → tailOf ps e ≠ x) ∨ ∃ e : Nat, lastB ps x m = (e : Int) ∧ e < m ∧ tailOf ps e = x ∧ ∀ e', e < e' → e' < m → tailOf ps e' ≠ x := by
  induction m with
  | zero => exact .inl ⟨rfl, fun e h => absurd h (Nat.not_lt_zero _)⟩
  | succ m ih =>
    unfold lastB
    by_cases h : tailOf ps m = x
    · rw [if_pos h]
      exact .inr ⟨m, rfl, by omega, h, fun e' h1 h2 => by omega⟩
    · rw [if_neg h]
      rcases ih with ⟨h1, h2⟩ | ⟨e, h1, h2, h3, h4⟩
      · exact .inl ⟨h1, fun e he => by
          by_cases e1 : e = m
          · subst e1; exact h
          · exact h2 e (by omega)⟩
      · exact .inr ⟨e, h1, by omega, h3, fun e' a1 a2 => by
          by_cases e1 : e' = m
          · subst e1; exact h
          · exact h4 e' a1 (by omega)⟩
theorem firstL_len (V : Nat) (ps : List Pr) : (firstL V ps).length = V := by simp [firstL]
theorem firstL_get (V : Nat) (ps : List Pr) {x : Nat} (h : x < V) : (firstL V ps)[x]? = some (lastB ps x (2 * ps.length)) := by simp [firstL, h]
theorem nextL_len (ps : List Pr) : (nextL ps).length = 2 * ps.length := by simp [nextL]
theorem nextL_get (ps : List Pr) {e : Nat} (h : e < 2 * ps.length) : (nextL ps)[e]? = some (lastB ps (tailOf ps e) e) := by simp [nextL, h]
theorem firstL_nil (V : Nat) : firstL V [] = List.replicate V (-1) := by
  apply List.ext_getElem?
  intro j
  by_cases h : j < V <;> simp [firstL, lastB, h]
theorem firstL_snoc (V : Nat) (ps : List Pr) (p : Pr) : ((firstL V ps).set p.a ((2 * ps.length : Nat) : Int)).set p.b (((2 * ps.length : Nat) : Int) + 1) = firstL V (ps ++ [p]) := by
  apply List.ext_getElem?
  intro x
  by_cases hx : x < V
  · rw [firstL_get _ _ hx]
    have e : lastB (ps ++ [p]) x (2 * (ps ++ [p]).length) = if p.b = x then ((2 * ps.length : Nat) : Int) + 1 else if p.a = x then ((2 * ps.length : Nat) : Int) else lastB ps x (2 * ps.length) := by
      have el : 2 * (ps ++ [p]).length = 2 * ps.length + 1 + 1 := by simp; omega
      rw [el]
      show (if tailOf (ps ++ [p]) (2 * ps.length + 1) = x then (((2 * ps.length + 1 : Nat) : Int)) else if tailOf (ps ++ [p]) (2 * ps.length) = x then ((2 * ps.length : Nat) : Int) else lastB (ps ++ [p]) x (2 * ps.length)) = _
      rw [tailOf_odd, tailOf_even, lastB_old ps p x _ (Nat.le_refl _)]
      rfl
    rw [e]
    by_cases h1 : p.b = x
    · rw [if_pos h1, h1, List.getElem?_set_self (by rw [List.length_set, firstL_len]; exact hx)]
    · rw [if_neg h1, List.getElem?_set_ne h1]
      by_cases h2 : p.a = x
      · rw [if_pos h2, h2, List.getElem?_set_self (by rw [firstL_len]; exact hx)]
      · rw [if_neg h2, List.getElem?_set_ne h2, firstL_get _ _ hx]
  · rw [List.getElem?_eq_none (by rw [List.length_set, List.length_set, firstL_len]; omega), List.getElem?_eq_none (by rw [firstL_len]; omega)]
theorem nextL_snoc (V : Nat) (ps : List Pr) (p : Pr) (ha : p.a < V) (hb : p.b < V) : ∃ fa fb, (firstL V ps)[p.a]? = some fa ∧ ((firstL V ps).set p.a ((2 * ps.length : Nat) : Int))[p.b]? = some fb ∧ nextL ps ++ [fa] ++ [fb] = nextL (ps ++ [p]) := by
  refine ⟨lastB ps p.a (2 * ps.length), if p.a = p.b then ((2 * ps.length : Nat) : Int) else lastB ps p.b (2 * ps.length), firstL_get _ _ ha, ?_, ?_⟩
  · by_cases e : p.a = p.b
    · rw [if_pos e, e, List.getElem?_set_self (by rw [firstL_len]; exact hb)]
    · rw [if_neg e, List.getElem?_set_ne e, firstL_get _ _ hb]
  · apply List.ext_getElem?
    intro j
    by_cases h0 : j < 2 * ps.length
    · rw [List.append_assoc, List.getElem?_append_left (by rw [nextL_len]; exact h0), nextL_get _ h0, nextL_get _ (by simp; omega), tailOf_old ps p h0, lastB_old ps p _ _ (by omega)]
    · by_cases h1 : j = 2 * ps.length
      · subst h1
        rw [List.append_assoc, List.getElem?_append_right (by rw [nextL_len]; omega), nextL_len, Nat.sub_self, nextL_get _ (by simp), tailOf_even, lastB_old ps p _ _ (Nat.le_refl _)]
        rfl
      · by_cases h2 : j = 2 * ps.length + 1
        · subst h2
          rw [List.append_assoc, List.getElem?_append_right (by rw [nextL_len]; omega), nextL_len, nextL_get _ (by simp; omega), tailOf_odd]
          have e1 : 2 * ps.length + 1 - 2 * ps.length = 1 := by omega
          rw [e1]
          show some _ = some (if tailOf (ps ++ [p]) (2 * ps.length) = p.b then ((2 * ps.length : Nat) : Int) else lastB (ps ++ [p]) p.b (2 * ps.length))
          rw [tailOf_even, lastB_old ps p _ _ (Nat.le_refl _)]
        · rw [List.getElem?_eq_none (by simp [nextL_len]; omega), List.getElem?_eq_none (by rw [nextL_len]; simp; omega)]
/-- The network of the pairs ps, with the arcs l (rooms may have changed). -/
def ZM (w : World) (T : Nat → Nat) (wr : World) (Z F V : Nat) (ps : List Pr) (l : List Arc) : Prop := ZN w T wr Z F V (firstL V ps) (nextL ps) (l.map Arc.to) (l.map Arc.room) (l.map Arc.cost)
def okP (n sink : Nat) (blk : Option (List Bool)) (p : Pr) : Bool := allowB n sink blk p.a && allowB n sink blk p.b
/-- What zzAdd leaves of the pairs. -/
def addM (n sink : Nat) (blk : Option (List Bool)) (ps : List Pr) (p : Pr) : List Pr := if okP n sink blk p then ps ++ [p] else ps
theorem addM_filter (n sink : Nat) (blk : Option (List Bool)) (ps : List Pr) (p : Pr) : addM n sink blk (ps.filter (okP n sink blk)) p = (ps ++ [p]).filter (okP n sink blk) := by
  unfold addM
  rw [List.filter_append]
  cases h : okP n sink blk p <;> simp [h]
theorem ZN.later {w : World} {T : Nat → Nat} {wr w' : World} {Z F V : Nat} {fs l2 l3 l4 l5 : List Int} (h : ZN w T wr Z F V fs l2 l3 l4 l5) (hb : Below wr.heap.size wr w') : ZN w T w' Z F V fs l2 l3 l4 l5 := by
  obtain ⟨T', z, h1, h2, h3⟩ := h
  exact ⟨T', z, h1.later hb, h2.later hb, h3⟩
theorem ZN.below {w : World} {T : Nat → Nat} {wr : World} {Z F V : Nat} {fs l2 l3 l4 l5 : List Int} (h : ZN w T wr Z F V fs l2 l3 l4 l5) {B : Nat} (hB : B ≤ w.heap.size) (hl : ∀ b, b < B → T b = 0) : Below B w wr := by
  obtain ⟨T', z, h1, h2, h3⟩ := h
  exact h2.below hB (fun i hi hh => hh (hl i hi))
def AddP (w : World) (T : Nat → Nat) (Z F V : Nat) (ps : List Pr) (e : Ending) (w' : World) : Prop := e = .returned (.tuple #[]) ∧ ZM w T w' Z F V ps (netOf V ps).2

set_option maxRecDepth 100000 in
set_option maxHeartbeats 1600000 in
theorem addP_any {w wr : World} {T : Nat → Nat} {Z F V n sink : Nat} {ps : List Pr} {blk : Option (List Bool)} {vb : Value} (h : ZM w T wr Z F V ps (netOf V ps).2) (p : Pr) (hm : ps.length ≤ 500000) (ha : p.a < V) (hb : p.b < V) (hx0 : 0 ≤ p.cost) (hx1 : p.cost ≤ 1)
    (hbl : BlkV wr vb n blk) (hn : n ≤ 256) (hs : sink < 2 * n) (hVn : V = 2 * n + 1) :
    Calls Try.prog 53 #[.pointer (some ⟨Z, 0, none⟩), .int .i64 n, .int .i64 sink, vb, .int .i64 p.a, .int .i64 p.b, .int .i32 p.full, .int .i32 p.cost] wr fun e w' => AddP w T Z F V (addM n sink blk ps p) e w' := by
  obtain ⟨T', z, hz, st, hq⟩ := h
  unfold addM okP
  have HZ : Hid (ZM w T wr Z F V ps (netOf V ps).2) := ⟨T', z, hz, st, hq⟩
  cases aa : allowB n sink blk p.a with
  | false =>
    have HE : Hid (AddP w T Z F V ps (.returned (.tuple #[])) wr) := ⟨rfl, HZ.out⟩
    have HA : Hid (Calls Try.prog 54 #[.int .i64 p.a, .int .i64 n, .int .i64 sink, vb] wr fun e w' => AllR wr false e w') := by
      have h := allowed_any p.a n sink blk vb wr hbl (by omega) hn hs
      rw [aa] at h; exact h
    obtain ⟨ao, bn, bc, rfl⟩ := hbl.form
    clear hz st hq aa hbl HZ hVn
    go_enter Try.func53, Try.ntmps53
    go_wp2_with fail
    refine HA.out.mono ?_
    rintro e w' ⟨rfl, rfl⟩
    go_wp2
    exact bodyPost_ret (v := .tuple #[]) (by simp [results, Try.results53, go_sem]) rfl HE.out
  | true =>
    cases ab : allowB n sink blk p.b with
    | false =>
      have HE : Hid (AddP w T Z F V ps (.returned (.tuple #[])) wr) := ⟨rfl, HZ.out⟩
      have HA : Hid (Calls Try.prog 54 #[.int .i64 p.a, .int .i64 n, .int .i64 sink, vb] wr fun e w' => AllR wr true e w') := by
        have h := allowed_any p.a n sink blk vb wr hbl (by omega) hn hs
        rw [aa] at h; exact h
      have HA2 : Hid (Calls Try.prog 54 #[.int .i64 p.b, .int .i64 n, .int .i64 sink, vb] wr fun e w' => AllR wr false e w') := by
        have h := allowed_any p.b n sink blk vb wr hbl (by omega) hn hs
        rw [ab] at h; exact h
      obtain ⟨ao, bn, bc, rfl⟩ := hbl.form
      clear hz st hq aa ab hbl HZ hVn
      go_enter Try.func53, Try.ntmps53
      go_wp2_with fail
      refine HA.out.mono ?_
      rintro e w' ⟨rfl, rfl⟩
      go_wp2_with fail
      refine HA2.out.mono ?_
      rintro e w'' ⟨rfl, rfl⟩
      go_wp2
      exact bodyPost_ret (v := .tuple #[]) (by simp [results, Try.results53, go_sem]) rfl HE.out
    | true =>
      obtain ⟨fa, fb, h1, h2, h3⟩ := nextL_snoc V ps p ha hb
      have hl := netOf_arcs V ps
      have c := add_any hz hq p.a p.b p.full p.cost fa fb (m := 2 * ps.length) (nextL_len ps) (by simp [hl]) (by simp [hl]) (by simp [hl]) (by omega) ha hb h1 h2 hx0 hx1 hbl hn hs hVn aa ab
      refine c.mono ?_
      rintro e w' ⟨rfl, T2, z2, k1, k2, k3⟩
      refine ⟨rfl, T2, z2, k1, st.trans k2, ?_⟩
      rw [firstL_snoc, h3] at k3
      show Zs z2 Z F V (firstL V (ps ++ [p])) (nextL (ps ++ [p])) ((netOf V (ps ++ [p])).2.map Arc.to) ((netOf V (ps ++ [p])).2.map Arc.room) ((netOf V (ps ++ [p])).2.map Arc.cost)
      rw [netOf_snoc]
      simpa [addPair] using k3
end Go.Proofs.Qxb6605292a
