/-
  The finder with its sources opened, and the law's own network: the same room leaves every set.
-/
import Derived.Test.Qxb6605292aGame
import Derived.Test.Qxb6605292aModel
import Derived.Test.Qxb6605292aPlay
namespace Go.Proofs.Qxb6605292a

def srcI (O : List Bool) (reach : Nat → List Int) (n v : Nat) : Nat := 2 * ((linkPairs O reach n).length + (srcPairs O n v).length)
/-- The first k generals' sources are opened, where S says so. -/
structure Opd (n : Nat) (O S : List Bool) (reach : Nat → List Int) (k : Nat) (l : List Arc) : Prop where
  len : l.length = 2 * (finPairs O reach n).length
  tos : ∀ a, toAt l a = toAt (netOf (2 * n + 1) (finPairs O reach n)).2 a
  rz : Rz l
  lk : ∀ j, j < (linkPairs O reach n).length → roomAt l (2 * j) = 1
  sr : ∀ v, v < n → isOut O v = false → roomAt l (srcI O reach n v) = if v < k ∧ S.getD v false = true then 1 else 0
theorem linkPairs_full (O : List Bool) (reach : Nat → List Int) (n : Nat) : ∀ p ∈ linkPairs O reach n, p.full = 1 ∧ p.a ≠ 2 * n ∨ p.full = 1 := by
  intro p hp
  unfold linkPairs at hp
  obtain ⟨v, _, h⟩ := List.mem_flatMap.1 hp
  unfold genOf at h
  split at h
  · simp at h
  · rcases List.mem_cons.1 h with rfl | h
    · exact .inr rfl
    · unfold linkOf at h
      obtain ⟨z, _, rfl⟩ := List.mem_map.1 h
      exact .inr rfl
theorem full_link {O : List Bool} {reach : Nat → List Int} {n : Nat} {p : Pr} (h : p ∈ linkPairs O reach n) : p.full = 1 := by
  rcases linkPairs_full O reach n p h with h | h
  · exact h.1
  · exact h
theorem finPairs_at (O : List Bool) (reach : Nat → List Int) (n : Nat) {v : Nat} (hv : v < n) (ho : isOut O v = false) : ∃ h : (linkPairs O reach n).length + (srcPairs O n v).length < (finPairs O reach n).length, (finPairs O reach n)[(linkPairs O reach n).length + (srcPairs O n v).length] = ⟨2 * n, 2 * v, 0, 0⟩ := by
  have h := finPairs_src O reach n hv ho
  exact List.getElem?_eq_some_iff.1 h
theorem Opd.start (n : Nat) (O S : List Bool) (reach : Nat → List Int) : Opd n O S reach 0 (netOf (2 * n + 1) (finPairs O reach n)).2 := by
  refine ⟨netOf_arcs _ _, fun _ => rfl, rz_net _ _ (fulls_ok _ _ _), fun j hj => ?_, fun v hv ho => ?_⟩
  · have hl : j < (finPairs O reach n).length := by unfold finPairs; rw [List.length_append]; omega
    have h := (netOf_even (2 * n + 1) (finPairs O reach n) hl).1
    unfold roomAt
    rw [h]
    show (finPairs O reach n)[j].full = 1
    have e : (finPairs O reach n)[j]? = (linkPairs O reach n)[j]? := by unfold finPairs; rw [List.getElem?_append_left hj]
    rw [List.getElem?_eq_getElem hl, List.getElem?_eq_getElem hj] at e
    injection e with e
    rw [e]
    exact full_link (List.getElem_mem hj)
  · obtain ⟨hl, e⟩ := finPairs_at O reach n hv ho
    have h := (netOf_even (2 * n + 1) (finPairs O reach n) hl).1
    unfold roomAt srcI
    rw [h, e]
    simp
theorem srcI_to {n : Nat} {O S : List Bool} {reach : Nat → List Int} {k : Nat} {l : List Arc} (h : Opd n O S reach k l) {v : Nat} (hv : v < n) (ho : isOut O v = false) : srcI O reach n v < l.length ∧ toAt l (srcI O reach n v) = ((2 * v : Nat) : Int) ∧ toAt l (twin (srcI O reach n v)) = ((2 * n : Nat) : Int) := by
  obtain ⟨hl, e⟩ := finPairs_at O reach n hv ho
  have hm := netOf_even (2 * n + 1) (finPairs O reach n) hl
  have ht : twin (srcI O reach n v) = srcI O reach n v + 1 := by unfold twin srcI; rw [if_pos (by omega)]
  refine ⟨by rw [h.len]; unfold srcI; omega, ?_, ?_⟩
  · rw [h.tos]
    unfold toAt srcI
    rw [hm.1, e]
  · rw [h.tos, ht]
    unfold toAt srcI
    rw [hm.2, e]
theorem Opd.open {n : Nat} {O S : List Bool} {reach : Nat → List Int} {k : Nat} {l : List Arc} (h : Opd n O S reach k l) (hk : k < n) (ho : isOut O k = false) (hs : S.getD k false = true) : Opd n O S reach (k + 1) (setRm l (srcI O reach n k) 1) := by
  have hi := srcI_to h hk ho
  refine ⟨by rw [setRm_len]; exact h.len, fun a => by rw [toAt_setRm]; exact h.tos a, h.rz.open (by unfold srcI; omega), fun j hj => ?_, fun v hv ho' => ?_⟩
  · rw [setRm_ne _ _ (by unfold srcI; omega)]; exact h.lk j hj
  · by_cases e : v = k
    · subst e
      rw [setRm_same _ _ _ hi.1, if_pos ⟨by omega, hs⟩]
    · have hj := srcI_to h hv ho'
      have hne : srcI O reach n k ≠ srcI O reach n v := fun e2 => by
        have h1 := hi.2.1
        rw [e2, hj.2.1] at h1
        omega
      rw [setRm_ne _ _ hne, h.sr v hv ho']
      by_cases hc : v < k ∧ S.getD v false = true
      · rw [if_pos hc, if_pos ⟨by omega, hc.2⟩]
      · rw [if_neg hc, if_neg (fun hh => hc ⟨by omega, hh.2⟩)]
theorem Opd.skip {n : Nat} {O S : List Bool} {reach : Nat → List Int} {k : Nat} {l : List Arc} (h : Opd n O S reach k l) (hs : S.getD k false = false) : Opd n O S reach (k + 1) l := by
  refine ⟨h.len, h.tos, h.rz, h.lk, fun v hv ho => ?_⟩
  rw [h.sr v hv ho]
  by_cases hc : v < k ∧ S.getD v false = true
  · rw [if_pos hc, if_pos ⟨by omega, hc.2⟩]
  · rw [if_neg hc, if_neg (fun hh => hc ⟨by
      by_cases e : v = k
      · subst e; rw [hs] at hh; simp at hh
      · omega, hh.2⟩)]
/-- Does pair p leave S? -/
def cnd (S : Int → Bool) (X : Int → Int → Bool) (p : Pr) : Int := ind ((S (p.a : Int) && !S (p.b : Int) && !X (p.a : Int) (p.b : Int)) = true)
theorem sumTo_add (f : Nat → Int) (a b : Nat) : sumTo f (a + b) = sumTo f a + sumTo (fun j => f (a + j)) b := by
  induction b with
  | zero => simp [sumTo]
  | succ b ih =>
    show sumTo f (a + b) + f (a + b) = _
    rw [ih]
    show _ = _ + (sumTo (fun j => f (a + j)) b + f (a + b))
    omega
theorem sumTo_two (f : Nat → Int) (m : Nat) : sumTo f (2 * m) = sumTo (fun k => f (2 * k) + f (2 * k + 1)) m := by
  induction m with
  | zero => rfl
  | succ m ih =>
    have e : 2 * (m + 1) = 2 * m + 1 + 1 := by omega
    rw [e]
    show sumTo f (2 * m) + f (2 * m) + f (2 * m + 1) = sumTo (fun k => f (2 * k) + f (2 * k + 1)) m + (f (2 * m) + f (2 * m + 1))
    rw [ih]; omega
/-- The room that leaves S, by the pairs. -/
theorem res_pairs (S : Int → Bool) (X : Int → Int → Bool) {V : Nat} {ps : List Pr} {l : List Arc} (hl : l.length = 2 * ps.length) (ht : ∀ a, toAt l a = toAt (netOf V ps).2 a) (ho : ∀ a, a % 2 = 1 → roomAt l a = 0) : res S X l = sumTo (fun k => cnd S X (ps.getD k ⟨0, 0, 0, 0⟩) * roomAt l (2 * k)) ps.length := by
  unfold res
  rw [hl, sumTo_two]
  apply sumTo_congr
  intro k hk
  have hm := netOf_even V ps hk
  rw [ho (2 * k + 1) (by omega), Int.mul_zero, Int.add_zero]
  congr 1
  unfold leave cnd
  have e1 : toAt l (2 * k) = (ps[k].b : Int) := by rw [ht]; unfold toAt; rw [hm.1]
  have e2 : toAt l (twin (2 * k)) = (ps[k].a : Int) := by
    have : twin (2 * k) = 2 * k + 1 := by unfold twin; rw [if_pos (by omega)]
    rw [this, ht]; unfold toAt; rw [hm.2]
  have e3 : ps.getD k ⟨0, 0, 0, 0⟩ = ps[k] := by simp [hk]
  rw [e1, e2, e3]
theorem sum_src (O : List Bool) (n : Nat) (f : Nat → Int) (k : Nat) : sumTo f (srcPairs O n k).length = sumTo (fun v => if isOut O v = true then 0 else f (srcPairs O n v).length) k := by
  induction k with
  | zero => simp [srcPairs, sumTo]
  | succ k ih =>
    rw [srcPairs_succ, List.length_append]
    unfold srcOf
    by_cases h : isOut O k = true
    · rw [if_pos h]
      show sumTo f ((srcPairs O n k).length + 0) = sumTo _ k + (if isOut O k = true then 0 else f (srcPairs O n k).length)
      rw [Nat.add_zero, ih, if_pos h, Int.add_zero]
    · rw [if_neg h]
      show sumTo f (srcPairs O n k).length + f (srcPairs O n k).length = sumTo _ k + (if isOut O k = true then 0 else f (srcPairs O n k).length)
      rw [ih, if_neg h]
theorem sum_msrc (S : List Bool) (n sink : Nat) (f : Nat → Int) (k : Nat) : sumTo f (msrc S n sink false k).length = sumTo (fun v => if (S.getD v false && decide (2 * v ≠ sink)) = true then f (msrc S n sink false v).length else 0) k := by
  induction k with
  | zero => simp [msrc, sumTo]
  | succ k ih =>
    rw [msrc_succ, List.length_append]
    unfold msrcOf
    rw [Bool.false_or]
    by_cases h : (S.getD k false && decide (2 * k ≠ sink)) = true
    · rw [if_pos h]
      show sumTo f (msrc S n sink false k).length + f (msrc S n sink false k).length = sumTo _ k + (if (S.getD k false && decide (2 * k ≠ sink)) = true then f (msrc S n sink false k).length else 0)
      rw [ih, if_pos h]
    · rw [if_neg h]
      show sumTo f ((msrc S n sink false k).length + 0) = sumTo _ k + (if (S.getD k false && decide (2 * k ≠ sink)) = true then f (msrc S n sink false k).length else 0)
      rw [Nat.add_zero, ih, if_neg h, Int.add_zero]
theorem msrc_at (S : List Bool) (n sink : Nat) {v : Nat} (h : (S.getD v false && decide (2 * v ≠ sink)) = true) : ∀ k, v < k → (msrc S n sink false k)[(msrc S n sink false v).length]? = some ⟨2 * n, 2 * v, 1, 0⟩ := by
  intro k
  induction k with
  | zero => intro h; omega
  | succ k ih =>
    intro hvk
    rw [msrc_succ]
    by_cases e : v = k
    · subst e
      rw [List.getElem?_append_right (Nat.le_refl _), Nat.sub_self]
      unfold msrcOf
      rw [Bool.false_or, if_pos h]
      rfl
    · have h1 := ih (by omega)
      rw [List.getElem?_append_left (List.getElem?_eq_some_iff.1 h1).1]
      exact h1
/-- The finder's room that leaves S. -/
theorem res_finder (T : Int → Bool) {n sink : Nat} {O S : List Bool} {reach : Nat → List Int} {l : List Arc} (h : Opd n O S reach n l) : res T (Xs n sink) l = sumTo (fun k => cnd T (Xs n sink) ((linkPairs O reach n).getD k ⟨0, 0, 0, 0⟩)) (linkPairs O reach n).length + sumTo (fun v => if isOut O v = true then 0 else cnd T (Xs n sink) ⟨2 * n, 2 * v, 0, 0⟩ * if S.getD v false = true then 1 else 0) n := by
  rw [res_pairs T (Xs n sink) h.len h.tos h.rz.odd]
  have e : (finPairs O reach n).length = (linkPairs O reach n).length + (srcPairs O n n).length := by unfold finPairs; rw [List.length_append]
  rw [e, sumTo_add]
  congr 1
  · apply sumTo_congr
    intro k hk
    rw [h.lk k hk, Int.mul_one]
    congr 1
    unfold finPairs
    rw [List.getD_eq_getElem?_getD, List.getElem?_append_left hk, ← List.getD_eq_getElem?_getD]
  · rw [sum_src]
    apply sumTo_congr
    intro v hv
    by_cases ho : isOut O v = true
    · rw [if_pos ho, if_pos ho]
    · have ho' : isOut O v = false := by simpa using ho
      rw [if_neg ho, if_neg ho]
      obtain ⟨hl, e2⟩ := finPairs_at O reach n hv ho'
      have hs := h.sr v hv ho'
      unfold srcI at hs
      rw [hs]
      have e3 : (finPairs O reach n).getD ((linkPairs O reach n).length + (srcPairs O n v).length) ⟨0, 0, 0, 0⟩ = ⟨2 * n, 2 * v, 0, 0⟩ := by rw [List.getD_eq_getElem?_getD, List.getElem?_eq_getElem hl, e2]; rfl
      rw [e3]
      simp [hv]
/-- The law's own network's room that leaves S. -/
theorem res_model (T : Int → Bool) {n sink : Nat} {O S : List Bool} {reach : Nat → List Int} : res T (Xs n sink) (netOf (2 * n + 1) (linkPairs O reach n ++ msrc S n sink false n)).2 = sumTo (fun k => cnd T (Xs n sink) ((linkPairs O reach n).getD k ⟨0, 0, 0, 0⟩)) (linkPairs O reach n).length + sumTo (fun v => if (S.getD v false && decide (2 * v ≠ sink)) = true then cnd T (Xs n sink) ⟨2 * n, 2 * v, 1, 0⟩ else 0) n := by
  have hfull : ∀ p ∈ linkPairs O reach n ++ msrc S n sink false n, p.full = 1 := by
    intro p hp
    rcases List.mem_append.1 hp with hp | hp
    · exact full_link hp
    · unfold msrc at hp
      obtain ⟨v, _, h⟩ := List.mem_flatMap.1 hp
      unfold msrcOf at h
      split at h
      · rw [List.mem_singleton] at h; subst h; rfl
      · simp at h
  rw [res_pairs T (Xs n sink) (netOf_arcs _ _) (fun _ => rfl) (rz_net _ _ (fun p hp => .inr (hfull p hp))).odd, List.length_append, sumTo_add]
  have hroom : ∀ k, k < (linkPairs O reach n ++ msrc S n sink false n).length → roomAt (netOf (2 * n + 1) (linkPairs O reach n ++ msrc S n sink false n)).2 (2 * k) = 1 := by
    intro k hk
    unfold roomAt
    rw [(netOf_even (2 * n + 1) _ hk).1]
    exact hfull _ (List.getElem_mem hk)
  congr 1
  · apply sumTo_congr
    intro k hk
    rw [hroom k (by rw [List.length_append]; omega), Int.mul_one]
    congr 1
    rw [List.getD_eq_getElem?_getD, List.getElem?_append_left hk, ← List.getD_eq_getElem?_getD]
  · rw [sum_msrc]
    apply sumTo_congr
    intro v hv
    by_cases hc : (S.getD v false && decide (2 * v ≠ sink)) = true
    · rw [if_pos hc, if_pos hc]
      have hm := msrc_at S n sink hc n hv
      have hml := (List.getElem?_eq_some_iff.1 hm).1
      rw [hroom _ (by rw [List.length_append]; omega), Int.mul_one]
      congr 1
      rw [List.getD_eq_getElem?_getD, List.getElem?_append_right (Nat.le_add_right _ _), Nat.add_sub_cancel_left, hm]
      rfl
    · rw [if_neg hc, if_neg hc]
/-- They are the same. -/
theorem res_same (T : Int → Bool) {n sink : Nat} {O S : List Bool} {reach : Nat → List Int} {l : List Arc} (h : Opd n O S reach n l) (hs : ∀ v, v < n → S.getD v false = true → isOut O v = false) : res T (Xs n sink) l = res T (Xs n sink) (netOf (2 * n + 1) (linkPairs O reach n ++ msrc S n sink false n)).2 := by
  rw [res_finder T h, res_model T]
  congr 1
  apply sumTo_congr
  intro v hv
  cases hsv : S.getD v false with
  | false => simp
  | true =>
    have ho := hs v hv hsv
    rw [if_neg (by rw [ho]; simp), if_pos rfl, Int.mul_one, Bool.true_and]
    by_cases e : 2 * v = sink
    · have : cnd T (Xs n sink) ⟨2 * n, 2 * v, 0, 0⟩ = 0 := by
        unfold cnd Xs ind
        rw [if_neg]
        simp [e]
      rw [this, if_neg (by simp [e])]
    · rw [if_pos (by simp [e])]
      rfl
/-- Only so many units can leave the source. -/
theorem res_small {n sink : Nat} {O S : List Bool} {reach : Nat → List Int} {l : List Arc} (h : Opd n O S reach n l) (hl : ∀ p ∈ linkPairs O reach n, p.a < 2 * n) : res (fun z => decide (z = ((2 * n : Nat) : Int))) (Xs n sink) l ≤ n := by
  rw [res_finder _ h]
  have e1 : sumTo (fun k => cnd (fun z => decide (z = ((2 * n : Nat) : Int))) (Xs n sink) ((linkPairs O reach n).getD k ⟨0, 0, 0, 0⟩)) (linkPairs O reach n).length = 0 := by
    apply sumTo_zero
    intro k hk
    have := hl _ (List.getElem_mem hk)
    have e3 : (linkPairs O reach n).getD k ⟨0, 0, 0, 0⟩ = (linkPairs O reach n)[k] := by simp [hk]
    rw [e3]
    unfold cnd ind
    rw [if_neg]
    have hd : decide (((linkPairs O reach n)[k].a : Int) = ((2 * n : Nat) : Int)) = false := decide_eq_false (by omega)
    show ¬ ((decide (((linkPairs O reach n)[k].a : Int) = ((2 * n : Nat) : Int)) && !decide (((linkPairs O reach n)[k].b : Int) = ((2 * n : Nat) : Int)) && !Xs n sink ((linkPairs O reach n)[k].a : Int) ((linkPairs O reach n)[k].b : Int)) = true)
    rw [hd]
    simp
  rw [e1, Int.zero_add]
  have key : ∀ k, sumTo (fun v => if isOut O v = true then 0 else cnd (fun z => decide (z = ((2 * n : Nat) : Int))) (Xs n sink) ⟨2 * n, 2 * v, 0, 0⟩ * if S.getD v false = true then 1 else 0) k ≤ k := by
    intro k
    induction k with
    | zero => exact Int.le_refl _
    | succ k ih =>
      unfold sumTo
      have : (if isOut O k = true then (0 : Int) else cnd (fun z => decide (z = ((2 * n : Nat) : Int))) (Xs n sink) ⟨2 * n, 2 * k, 0, 0⟩ * if S.getD k false = true then 1 else 0) ≤ 1 := by
        split
        · omega
        · rcases ind_01 (((decide (((2 * n : Nat) : Int) = ((2 * n : Nat) : Int))) && !(decide (((2 * k : Nat) : Int) = ((2 * n : Nat) : Int))) && !Xs n sink ((2 * n : Nat) : Int) ((2 * k : Nat) : Int)) = true) with e | e
          · have : cnd (fun z => decide (z = ((2 * n : Nat) : Int))) (Xs n sink) ⟨2 * n, 2 * k, 0, 0⟩ = 0 := e
            rw [this]; omega
          · have : cnd (fun z => decide (z = ((2 * n : Nat) : Int))) (Xs n sink) ⟨2 * n, 2 * k, 0, 0⟩ = 1 := e
            rw [this]; split <;> omega
      omega
  exact key n
end Go.Proofs.Qxb6605292a
