/-
  Augment played until it refuses, plainly: what the ways have done; the set that no room enters.
-/
import Derived.Test.Qxb6605292aAug0
import Derived.Test.Qxb6605292aCut
namespace Go.Proofs.Qxb6605292a

/-- The sink's own source arc stands aside. -/
def Xs (n sink : Nat) (t h : Int) : Bool := decide (t = ((2 * n : Nat) : Int)) && decide (h = (sink : Int))
/-- What c ways have done to the arcs, and what is touched. -/
structure Run (n sink : Nat) (l0 l : List Arc) (ts : List Int) (c : Nat) : Prop where
  len : l.length = l0.length
  tos : ∀ a, toAt l a = toAt l0 a
  rm : Rm l
  sum : ∀ a, roomAt l a + roomAt l (twin a) = roomAt l0 a + roomAt l0 (twin a)
  res : ∀ S : Int → Bool, S ((2 * n : Nat) : Int) = true → S (sink : Int) = false → res S (Xs n sink) l = res S (Xs n sink) l0 - c
  bal : ∀ K x : Nat, l0.length = 2 * K → balF l K x = balF l0 K x + c * (ind (sink = x) - ind (2 * n = x))
  cov : ∀ a : Nat, roomAt l a ≠ roomAt l0 a → (a : Int) ∈ ts
  tin : ∀ t ∈ ts, 0 ≤ t ∧ t < l0.length
theorem Run.zero {n sink : Nat} {l : List Arc} (h : Rm l) : Run n sink l l [] 0 :=
  ⟨rfl, fun _ => rfl, h, fun _ => rfl, fun _ _ _ => by omega, fun _ _ _ => by simp, fun a h => absurd rfl h, fun t h => by cases h⟩
theorem pushAt_sum (l : List Arc) {a : Nat} (ha : a < l.length) (ht : twin a < l.length) (b : Nat) : roomAt (pushAt l a) b + roomAt (pushAt l a) (twin b) = roomAt l b + roomAt l (twin b) := by
  have e1 := pushAt_self l ha
  have e2 := pushAt_twin l ht
  have key : b = a ∨ b = twin a ∨ (b ≠ a ∧ b ≠ twin a) := by omega
  rcases key with rfl | rfl | ⟨k1, k2⟩
  · rw [e1, e2]; omega
  · rw [twin_twin, e1, e2]; omega
  · rw [pushAt_ne _ k1 k2, pushAt_ne _ (fun e => k2 (by rw [← e, twin_twin])) (fun e => k1 (by rw [← twin_twin b, e, twin_twin]))]
theorem pushAll_sum : ∀ (br : List Nat) (l : List Arc), (∀ a ∈ br, a < l.length ∧ twin a < l.length) → ∀ b, roomAt (pushAll l br) b + roomAt (pushAll l br) (twin b) = roomAt l b + roomAt l (twin b) := by
  intro br
  induction br with
  | nil => intro l _ b; rfl
  | cons a br ih =>
    intro l h b
    have ha := h a List.mem_cons_self
    show roomAt (pushAll (pushAt l a) br) b + roomAt (pushAll (pushAt l a) br) (twin b) = _
    rw [ih _ (fun c hc => by rw [pushAt_len]; exact h c (List.mem_cons_of_mem _ hc)), pushAt_sum l ha.1 ha.2]
theorem Way.mem {l : List Arc} {vi : List Int} {x sink : Nat} {ns ar : List Nat} (h : Way l vi x sink ns ar) {a : Nat} (ha : a ∈ ar) : a < l.length := by
  obtain ⟨i, hi⟩ := List.mem_iff_getElem?.1 ha
  obtain ⟨_, _, _, _, _, h4, _⟩ := h.arc i a hi
  exact h4
/-- The way's arcs are not the one that stands aside. -/
theorem Found.aside {n sink : Nat} {W : Int} {l : List Arc} {source sn vi : List Int} {q par : List Nat} (h : Found n sink W l source sn vi q par) {ns ar : List Nat} (hw : Way l vi (2 * n) sink ns ar) : ∀ a ∈ ar, Xs n sink (toAt l (twin a)) (toAt l a) = false ∧ Xs n sink (toAt l a) (toAt l (twin a)) = false := by
  obtain ⟨sn0, vi0, f, p, v, a0, b, hb, hf, hfq, _, rfl, hv, _, _, _, _, hb1, hb2, hb3, _⟩ := h
  have hsq : sink ∈ q := List.mem_of_getElem? hb.hd
  intro a ha
  obtain ⟨k, hk⟩ := List.mem_iff_getElem?.1 ha
  obtain ⟨u, w, h1, h2, h3, h4, h5, h6, _⟩ := hw.arc k a hk
  unfold Xs
  rw [h5, h6]
  constructor
  · by_cases e : u = 2 * n
    · subst e
      have hk0 := nodup_at hw.nd h1 hw.hd
      rw [List.getElem?_set_self (by rw [List.length_set, hb.vil]; omega)] at h3
      injection h3 with h3
      have hab : b = a := by omega
      subst hab
      rw [hb2] at h5
      have : w ≠ sink := fun e => hfq (by have : f = w := by omega
                                          rw [this, e]; exact hsq)
      have e2 : decide ((w : Int) = (sink : Int)) = false := decide_eq_false (by omega)
      rw [e2, Bool.and_false]
    · have e1 : decide ((u : Int) = ((2 * n : Nat) : Int)) = false := decide_eq_false (by omega)
      rw [e1, Bool.false_and]
  · have : w ≠ 2 * n := fun e => by
      subst e
      have := nodup_at hw.nd h2 hw.hd
      omega
    have e1 : decide ((w : Int) = ((2 * n : Nat) : Int)) = false := decide_eq_false (by omega)
    rw [e1, Bool.false_and]
theorem Run.way {n sink : Nat} {l0 l : List Arc} {ts : List Int} {c : Nat} (h : Run n sink l0 l ts c) (hev : l0.length % 2 = 0) {W : Int} {source sn vi : List Int} {q par : List Nat} (hf : Found n sink W l source sn vi q par) {ns ar : List Nat} (hw : Way l vi (2 * n) sink ns ar) :
    Run n sink l0 (pushAll l ar) (ts ++ ar.flatMap fun a : Nat => [(a : Int), (twin a : Int)]) (c + 1) := by
  have hev' : l.length % 2 = 0 := by rw [h.len]; exact hev
  have htw : ∀ a, a < l.length → twin a < l.length := fun a ha => by unfold twin; split <;> omega
  have hm : ∀ a ∈ ar, a < l.length ∧ twin a < l.length := fun a ha => ⟨hw.mem ha, htw a (hw.mem ha)⟩
  refine ⟨by rw [pushAll_len]; exact h.len, fun a => by rw [toAt_pushAll]; exact h.tos a, hw.rmAll h.rm hev', fun a => by rw [pushAll_sum ar l hm]; exact h.sum a, ?_, ?_, ?_, ?_⟩
  · intro S hs ht
    rw [res_pushAll S (Xs n sink) ar l hm, hw.cut S (Xs n sink) hs ht (hf.aside hw), h.res S hs ht]
    omega
  · intro K x hK
    rw [balF_pushAll x ar l (by rw [h.len]; exact hK) (fun a ha => (hm a ha).1), hw.balance x, h.bal K x hK]
    have : ((c + 1 : Nat) : Int) = (c : Int) + 1 := by omega
    rw [this, Int.add_mul]
    omega
  · intro a ha
    by_cases hin : ∃ b ∈ ar, a = b ∨ a = twin b
    · obtain ⟨b, hb, e⟩ := hin
      refine List.mem_append_right _ (List.mem_flatMap.2 ⟨b, hb, ?_⟩)
      rcases e with rfl | rfl <;> simp
    · refine List.mem_append_left _ (h.cov a (fun e => ha ?_))
      rw [pushAll_ne l (fun b hb => ⟨fun e => hin ⟨b, hb, .inl e⟩, fun e => hin ⟨b, hb, .inr e⟩⟩)]
      exact e
  · intro t ht
    rcases List.mem_append.1 ht with ht | ht
    · exact h.tin t ht
    · obtain ⟨b, hb, e⟩ := List.mem_flatMap.1 ht
      have := hm b hb
      have hl := h.len
      simp at e
      rcases e with rfl | rfl <;> omega
/-- Arcs that leave the source are the source arcs. -/
def SrcOnly (n : Nat) (l : List Arc) (source : List Int) : Prop := ∀ a : Nat, a < l.length → toAt l (twin a) = ((2 * n : Nat) : Int) → ∃ u : Nat, source[u]? = some (a : Int) ∧ toAt l a = ((2 * u : Nat) : Int)
/-- The nodes outside q. -/
def outOf (q : List Nat) (z : Int) : Bool := !q.any fun v => decide ((v : Int) = z)
theorem outOf_false {q : List Nat} {z : Int} : outOf q z = false ↔ ∃ v ∈ q, (v : Int) = z := by simp [outOf]
/-- The search refused: no room enters q. -/
theorem refused {n sink : Nat} {W : Int} {l : List Arc} {source sn vi : List Int} {q par : List Nat} {nodes : List (List Int)} (hb : BI n sink W l source sn vi q par) (hd : Done n l q q.length) (hn : Nw n l nodes source) (hs : SrcOnly n l source) (hr : Rm l) :
    outOf q ((2 * n : Nat) : Int) = true ∧ outOf q (sink : Int) = false ∧ res (outOf q) (Xs n sink) l = 0 := by
  have h1 : outOf q ((2 * n : Nat) : Int) = true := by
    cases h : outOf q ((2 * n : Nat) : Int) with
    | true => rfl
    | false =>
      obtain ⟨v, hv, e⟩ := outOf_false.1 h
      have := hb.lt v hv
      omega
  refine ⟨h1, outOf_false.2 ⟨sink, List.mem_of_getElem? hb.hd, rfl⟩, ?_⟩
  refine sumTo_zero (fun a ha => ?_)
  by_cases hr0 : roomAt l a = 0
  · rw [hr0, Int.mul_zero]
  · have : leave (outOf q) (Xs n sink) l a = 0 := by
      unfold leave ind
      rw [if_neg]
      intro hc
      rw [Bool.and_eq_true, Bool.and_eq_true] at hc
      obtain ⟨⟨c1, c2⟩, c3⟩ := hc
      have c2' : outOf q (toAt l a) = false := by simpa using c2
      obtain ⟨v, hv, ev⟩ := outOf_false.1 c2'
      obtain ⟨p, hp⟩ := List.mem_iff_getElem?.1 hv
      obtain ⟨y, hy, _⟩ := hn.tos (twin a) (hn.twin_lt ha)
      rcases hd p v a y (List.getElem?_eq_some_iff.1 hp).1 hp ha ev.symm hr0 hy with h | h
      · have : outOf q (toAt l (twin a)) = false := outOf_false.2 ⟨y, h, hy.symm⟩
        rw [this] at c1; cases c1
      · subst h
        obtain ⟨u, hu1, hu2⟩ := hs a ha hy
        have hvu : v = 2 * u := by omega
        subst hvu
        have hp0 : p ≠ 0 := fun e => by
          subst e
          have := hb.hd
          rw [hp] at this
          injection this with this
          have : Xs n sink (toAt l (twin a)) (toAt l a) = true := by
            unfold Xs
            rw [hy, hu2, decide_eq_true rfl, Bool.true_and]
            exact decide_eq_true (by omega)
          rw [this] at c3; cases c3
        have := hb.shut p u a (by omega) hp hu1
        have := hr.lo a
        omega
    rw [this, Int.zero_mul]
end Go.Proofs.Qxb6605292a
