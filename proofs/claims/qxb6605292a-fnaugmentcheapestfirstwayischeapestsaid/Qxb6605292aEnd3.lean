/-
  What the law on disjoint paths asks at its end, plainly.
-/
import Derived.Test.Qxb6605292aPlay3
import Derived.Test.Qxb6605292aCover
import Derived.Test.Qxb6605292aSmall
namespace Go.Proofs.Qxb6605292a

theorem link_ends {O : List Bool} {reach : Nat → List Int} {n : Nat} (hr : ∀ v, v < n → ∀ z ∈ reach v, 0 ≤ z ∧ z < n) : ∀ p ∈ linkPairs O reach n, p.a < 2 * n ∧ p.b < 2 * n := by
  intro p hp
  unfold linkPairs at hp
  obtain ⟨v, hv, h⟩ := List.mem_flatMap.1 hp
  have hvn := List.mem_range.1 hv
  unfold genOf at h
  split at h
  · simp at h
  · rcases List.mem_cons.1 h with rfl | h
    · exact ⟨by show 2 * v < _; omega, by show 2 * v + 1 < _; omega⟩
    · unfold linkOf at h
      obtain ⟨z, hz, rfl⟩ := List.mem_map.1 h
      have hzr := hr v hvn z (List.mem_filter.1 hz).1
      exact ⟨by show 2 * v + 1 < _; omega, by show 2 * z.toNat < _; omega⟩
theorem src_ends {O : List Bool} {n k : Nat} (hk : k ≤ n) : ∀ p ∈ srcPairs O n k, p.a = 2 * n ∧ p.b < 2 * n := by
  intro p hp
  unfold srcPairs at hp
  obtain ⟨v, hv, h⟩ := List.mem_flatMap.1 hp
  have hvn := List.mem_range.1 hv
  unfold srcOf at h
  split at h
  · simp at h
  · rw [List.mem_singleton] at h
    subst h
    exact ⟨rfl, by show 2 * v < _; omega⟩
theorem src_index (O : List Bool) (n : Nat) : ∀ k j, j < (srcPairs O n k).length → ∃ v, v < k ∧ isOut O v = false ∧ j = (srcPairs O n v).length := by
  intro k
  induction k with
  | zero => intro j h; simp [srcPairs] at h
  | succ k ih =>
    intro j h
    rw [srcPairs_succ, List.length_append] at h
    unfold srcOf at h
    by_cases hj : j < (srcPairs O n k).length
    · obtain ⟨v, h1, h2, h3⟩ := ih j hj
      exact ⟨v, by omega, h2, h3⟩
    · split at h
      · simp at h; omega
      · rename_i ho
        simp at h
        exact ⟨k, by omega, by simpa using ho, by omega⟩
theorem tail_of {V : Nat} {ps : List Pr} {l : List Arc} (hl : l.length = 2 * ps.length) (ht : ∀ a, toAt l a = toAt (netOf V ps).2 a) {a : Nat} (ha : a < l.length) : toAt l (twin a) = (tailOf ps a : Int) ∧ toAt l a = (tailOf ps (twin a) : Int) := by
  have h := toAt_net V ps (a := a) (by omega)
  rw [ht, ht]
  exact ⟨h.2, h.1⟩
theorem tailOf_pair {ps : List Pr} {a : Nat} (ha : a < 2 * ps.length) : ∃ h : a / 2 < ps.length, tailOf ps a = if a % 2 = 0 then ps[a / 2].a else ps[a / 2].b := by
  have h : a / 2 < ps.length := by omega
  refine ⟨h, ?_⟩
  unfold tailOf
  simp [h]
theorem srcOnly {n : Nat} {O S : List Bool} {reach : Nat → List Int} {k : Nat} {l : List Arc} {source : List Int} (ho : Opd n O S reach k l) (hr : ∀ v, v < n → ∀ z ∈ reach v, 0 ≤ z ∧ z < n) (hs : ∀ v, v < n → isOut O v = false → source[v]? = some ((srcI O reach n v : Nat) : Int)) : SrcOnly n l source := by
  intro a ha ht
  have h := tail_of ho.len ho.tos ha
  rw [h.1] at ht
  have hta : tailOf (finPairs O reach n) a = 2 * n := by omega
  obtain ⟨hl, e⟩ := tailOf_pair (ps := finPairs O reach n) (a := a) (by rw [← ho.len]; exact ha)
  rw [e] at hta
  have hm : (finPairs O reach n)[a / 2] ∈ finPairs O reach n := List.getElem_mem hl
  have hmem : (finPairs O reach n)[a / 2] ∈ linkPairs O reach n ∨ (finPairs O reach n)[a / 2] ∈ srcPairs O n n := List.mem_append.1 hm
  by_cases hev : a % 2 = 0
  · rw [if_pos hev] at hta
    by_cases hlk : a / 2 < (linkPairs O reach n).length
    · exfalso
      have e2 : (finPairs O reach n)[a / 2]? = (linkPairs O reach n)[a / 2]? := by unfold finPairs; rw [List.getElem?_append_left hlk]
      rw [List.getElem?_eq_getElem hl, List.getElem?_eq_getElem hlk] at e2
      injection e2 with e2
      have := (link_ends hr _ (List.getElem_mem hlk)).1
      rw [← e2] at this
      omega
    · have hls : a / 2 - (linkPairs O reach n).length < (srcPairs O n n).length := by
        have : (finPairs O reach n).length = (linkPairs O reach n).length + (srcPairs O n n).length := by unfold finPairs; rw [List.length_append]
        omega
      obtain ⟨v, hv, hvo, hj⟩ := src_index O n n _ hls
      have hav : a = srcI O reach n v := by unfold srcI; omega
      have hi := srcI_to ho hv hvo
      exact ⟨v, by rw [hs v hv hvo, hav], by rw [hav]; exact hi.2.1⟩
  · rw [if_neg hev] at hta
    exfalso
    rcases hmem with h1 | h1
    · have := (link_ends hr _ h1).2; omega
    · have := (src_ends (Nat.le_refl n) _ h1).2; omega
theorem msrc_ends {S : List Bool} {n sink k : Nat} (hk : k ≤ n) : ∀ p ∈ msrc S n sink false k, p.a = 2 * n ∧ p.b < 2 * n ∧ p.b ≠ sink := by
  intro p hp
  unfold msrc at hp
  obtain ⟨v, hv, h⟩ := List.mem_flatMap.1 hp
  have hvn := List.mem_range.1 hv
  unfold msrcOf at h
  split at h
  · rename_i hc
    rw [List.mem_singleton] at h
    subst h
    simp at hc
    exact ⟨rfl, by show 2 * v < _; omega, by show 2 * v ≠ _; omega⟩
  · simp at h
/-- The law's own network fits. -/
theorem model_ok {O S : List Bool} {reach : Nat → List Int} {n sink : Nat} (hr : ∀ v, v < n → ∀ z ∈ reach v, 0 ≤ z ∧ z < n) :
    PsOk (2 * n + 1) (linkPairs O reach n ++ msrc S n sink false n) (netOf (2 * n + 1) (linkPairs O reach n ++ msrc S n sink false n)).2 ∧ Rm (netOf (2 * n + 1) (linkPairs O reach n ++ msrc S n sink false n)).2 ∧
    (∀ a, a < (netOf (2 * n + 1) (linkPairs O reach n ++ msrc S n sink false n)).2.length → Xs n sink (toAt (netOf (2 * n + 1) (linkPairs O reach n ++ msrc S n sink false n)).2 (twin a)) (toAt (netOf (2 * n + 1) (linkPairs O reach n ++ msrc S n sink false n)).2 a) = false) := by
  obtain ⟨ps, hps⟩ : ∃ ps, linkPairs O reach n ++ msrc S n sink false n = ps := ⟨_, rfl⟩
  have hends : ∀ p ∈ ps, p.a < 2 * n + 1 ∧ p.b < 2 * n ∧ (p.a = 2 * n → p.b ≠ sink) ∧ (p.full = 0 ∨ p.full = 1) := by
    intro p hp
    rw [← hps] at hp
    rcases List.mem_append.1 hp with hp | hp
    · have := link_ends hr p hp
      exact ⟨by omega, this.2, fun h => by omega, .inr (full_link hp)⟩
    · have := msrc_ends (Nat.le_refl n) p hp
      refine ⟨by omega, this.2.1, fun _ => this.2.2, ?_⟩
      unfold msrc at hp
      obtain ⟨v, _, h⟩ := List.mem_flatMap.1 hp
      unfold msrcOf at h
      split at h
      · rw [List.mem_singleton] at h; subst h; exact .inr rfl
      · simp at h
  rw [hps]
  have hlen := netOf_arcs (2 * n + 1) ps
  refine ⟨⟨hlen, fun a ha => (tail_of hlen (fun _ => rfl) ha).1, fun a ha => ?_⟩, (rz_net _ _ (fun p hp => (hends p hp).2.2.2)).rm, fun a ha => ?_⟩
  · obtain ⟨h, e⟩ := tailOf_pair (ps := ps) (a := a) (by omega)
    have := hends _ (List.getElem_mem h)
    rw [e]
    split <;> omega
  · have ht := tail_of (l := (netOf (2 * n + 1) ps).2) hlen (fun _ => rfl) ha
    rw [ht.1, ht.2]
    have htw : twin a < 2 * ps.length := by unfold twin; split <;> omega
    obtain ⟨h, e⟩ := tailOf_pair (ps := ps) (a := a) (by omega)
    obtain ⟨h2, e2⟩ := tailOf_pair (ps := ps) (a := twin a) htw
    have hq := hends _ (List.getElem_mem h)
    unfold Xs
    by_cases hev : a % 2 = 0
    · rw [if_pos hev] at e
      have e3 : twin a / 2 = a / 2 := by unfold twin; rw [if_pos hev]; omega
      have e4 : ¬ twin a % 2 = 0 := by unfold twin; rw [if_pos hev]; omega
      rw [if_neg e4] at e2
      have e5 : ps[twin a / 2] = ps[a / 2] := by simp only [e3]
      rw [e5] at e2
      rw [e, e2]
      by_cases h6 : ps[a / 2].a = 2 * n
      · have := hq.2.2.1 h6
        have : decide ((ps[a / 2].b : Int) = (sink : Int)) = false := decide_eq_false (by omega)
        rw [this, Bool.and_false]
      · have : decide ((ps[a / 2].a : Int) = ((2 * n : Nat) : Int)) = false := decide_eq_false (by omega)
        rw [this, Bool.false_and]
    · rw [if_neg hev] at e
      rw [e]
      have := hq.2.1
      have : decide ((ps[a / 2].b : Int) = ((2 * n : Nat) : Int)) = false := decide_eq_false (by omega)
      rw [this, Bool.false_and]
theorem balF_none {l : List Arc} (h : ∀ a, a % 2 = 1 → roomAt l a = 0) : ∀ K x, balF l K x = 0 := by
  intro K x
  induction K with
  | zero => rfl
  | succ K ih =>
    unfold balF
    rw [ih, h _ (by omega)]
    omega
/-- The flow that the finder sends is one. -/
theorem flow_ok {n sink c : Nat} {O S : List Bool} {reach : Nat → List Int} {l0 l : List Arc} {ts : List Int} (h : Run n sink l0 l ts c) (ho : Opd n O S reach n l0) (hb : (finPairs O reach n).length ≤ 400000) (hsk : sink < 2 * n) (htos : ∀ a, a < l0.length → ∃ y : Nat, toAt l0 a = (y : Int) ∧ y < 2 * n + 1) : FlowOk n sink c l0 l none := by
  have hl := ho.len
  have hlen := h.len
  refine ⟨h.len.symm, by omega, by omega, fun k _ => ho.rz.odd _ (by omega), h.rm.lo, h.rm.hi, fun k hk => ?_, fun a ha => ?_, fun _ _ _ _ _ _ _ => ⟨by simp [allowB], by simp [allowB]⟩, fun x hx => ?_⟩
  · have := h.sum (2 * k)
    have e : twin (2 * k) = 2 * k + 1 := by unfold twin; rw [if_pos (by omega)]
    rw [e, ho.rz.odd (2 * k + 1) (by omega)] at this
    omega
  · obtain ⟨y, h1, h2⟩ := htos a (by omega)
    exact ⟨y, by rw [h.tos]; exact h1, h2⟩
  · have e : l.length / 2 = (finPairs O reach n).length := by omega
    rw [e, h.bal _ x hl, balF_none ho.rz.odd, Int.zero_add]
    by_cases e1 : x = 2 * n
    · rw [if_pos e1]
      unfold ind
      rw [if_neg (by omega), if_pos e1.symm]
      omega
    · rw [if_neg e1]
      by_cases e2 : x = sink
      · rw [if_pos e2]
        unfold ind
        rw [if_pos e2.symm, if_neg (by omega)]
        omega
      · rw [if_neg e2]
        unfold ind
        rw [if_neg (by omega), if_neg (by omega)]
        omega
theorem cover_ok {n sink c : Nat} {l0 l : List Arc} {ts : List Int} (h : Run n sink l0 l ts c) : ∀ a : Nat, a < (l0.map Arc.room).length → (l0.map Arc.room)[a]? ≠ (l.map Arc.room)[a]? → (a : Int) ∈ ts := by
  intro a ha hne
  have ha' : a < l0.length := by simpa using ha
  have hl := h.len
  refine h.cov a (fun e => hne ?_)
  rw [roomAt_get (by omega), roomAt_get ha'] at e
  rw [List.getElem?_map, List.getElem?_map, List.getElem?_eq_getElem ha', List.getElem?_eq_getElem (by omega)]
  simp [e]
theorem filter_none (n sink : Nat) (ps : List Pr) : ps.filter (okP n sink none) = ps := by
  apply List.filter_eq_self.2
  intro p _
  simp [okP, allowB]
theorem openL_sub (n : Nat) (O op : List Bool) : ∀ v, v < n → (openL n O op n).getD v false = true → isOut O v = false := by
  intro v hv h
  rw [List.getD_eq_getElem?_getD, openL_get n O op n hv] at h
  simp at h
  exact h.2.2
end Go.Proofs.Qxb6605292a
