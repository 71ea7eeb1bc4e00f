/-
  A region that draws its order, in which several operations may come up in whatever order among themselves ('idx'): an invariant J over the set of those that have come up.
-/
import Derived.Test.Qxb6605292aReg
import Derived.Test.Qxb6605292aBase
namespace Go.Proofs.Qxb6605292a
open Go.RowKit
section
variable {P : Program} {ops : Array Oper} {Q : Exit → Act → World → Prop} {md : Region.Mode}

def mkL (base : Array Bool) : List Nat → Array Bool
  | [] => base
  | i :: D => (mkL base D).setIfInBounds i true
theorem mkL_get (base : Array Bool) (D : List Nat) (j : Nat) : (mkL base D)[j]? = if j < base.size ∧ j ∈ D then some true else base[j]? := by
  induction D with
  | nil => simp [mkL]
  | cons i D ih =>
    have hsz : (mkL base D).size = base.size := by
      clear ih
      induction D with
      | nil => rfl
      | cons k D ih => simp [mkL, ih]
    simp only [mkL]
    by_cases e : i = j
    · subst e
      by_cases hl : i < base.size
      · rw [Array.getElem?_setIfInBounds_self_of_lt (by omega)]; simp [hl]
      · rw [Array.getElem?_eq_none (by simp; omega)]; simp [hl]
    · rw [Array.getElem?_setIfInBounds_ne e, ih]
      simp [Ne.symm e]
theorem mkL_eq {base : Array Bool} {D D' : List Nat} (h : ∀ j, j < base.size → (j ∈ D ↔ j ∈ D')) : mkL base D = mkL base D' := by
  apply Array.ext_getElem?
  intro j
  rw [mkL_get, mkL_get]
  by_cases hl : j < base.size
  · simp [hl, h j hl]
  · simp [hl]

/-- While some of idx have not come up, just those may: each of idx waits for nobody any more; every other that has not come up waits for all of idx, or for one that is not of idx and has not come up. -/
def chkS (md : Region.Mode) (ops : Array Oper) (base : Array Bool) (idx : List Nat) : Bool :=
  (idx.all fun i => !base.getD i true && match ops[i]? with
    | some o => o.after.all fun e => !Region.binds md e || base.getD e.on false
    | none => false) &&
  (List.range ops.size).all fun i => base.getD i true || idx.contains i || match ops[i]? with
    | some o => (idx.all fun j => o.after.any fun e => Region.binds md e && e.on == j) || (o.after.any fun e => Region.binds md e && !base.getD e.on false && !idx.contains e.on)
    | none => false
theorem mkL_getD (base : Array Bool) (D : List Nat) (j : Nat) (d : Bool) : (mkL base D).getD j d = if j < base.size ∧ j ∈ D then true else base.getD j d := by
  rw [Array.getD_eq_getD_getElem?, mkL_get]
  split <;> simp
theorem chkS_spec {base : Array Bool} {idx : List Nat} (h : chkS md ops base idx = true) {D : List Nat} (hD : ∀ i ∈ D, i ∈ idx) {k : Nat} (hk : k ∈ idx) (hkD : k ∉ D) :
    Region.ready md ops (mkL base D) ≠ [] ∧ ∀ i ∈ Region.ready md ops (mkL base D), i ∈ idx ∧ i ∉ D := by
  unfold chkS at h
  rw [Bool.and_eq_true] at h
  obtain ⟨h1, h2⟩ := h
  refine ⟨fun h0 => ?_, fun i hi => ?_⟩
  · have hk1 := List.all_eq_true.1 h1 k hk
    rw [Bool.and_eq_true] at hk1
    have : k ∈ Region.ready md ops (mkL base D) := by
      rw [mem_ready]
      refine ⟨?_, ?_⟩
      · rw [mkL_getD, if_neg (fun hh => hkD hh.2)]; simpa using hk1.1
      · cases ho : ops[k]? with
        | none => rw [ho] at hk1; exact absurd hk1.2 (by simp)
        | some o =>
          rw [ho] at hk1
          refine ⟨o, rfl, fun e he hb => ?_⟩
          have := Array.all_eq_true_iff_forall_mem.1 hk1.2 e he
          rw [hb] at this
          rw [mkL_getD]
          split
          · rfl
          · simpa using this
    rw [h0] at this
    cases this
  · rw [mem_ready] at hi
    obtain ⟨hun, o, ho, hall⟩ := hi
    rw [mkL_getD] at hun
    have hiD : ¬ (i < base.size ∧ i ∈ D) := fun hh => by rw [if_pos hh] at hun; cases hun
    rw [if_neg hiD] at hun
    have hlt : i < base.size := by
      rcases Nat.lt_or_ge i base.size with h' | h'
      · exact h'
      · rw [Array.getD_eq_getD_getElem?, Array.getElem?_eq_none h'] at hun; cases hun
    have hiD' : i ∉ D := fun hh => hiD ⟨hlt, hh⟩
    refine ⟨?_, hiD'⟩
    have h3 := List.all_eq_true.1 h2 i (List.mem_range.2 (Array.getElem?_eq_some_iff.1 ho).1)
    rw [hun, ho, Bool.false_or] at h3
    rcases Bool.or_eq_true_iff.1 h3 with h3 | h3
    · simpa using h3
    · exfalso
      rcases Bool.or_eq_true_iff.1 h3 with h3 | h3
      · obtain ⟨e, he, hb⟩ := Array.any_eq_true'.1 (List.all_eq_true.1 h3 k hk)
        simp only [Bool.and_eq_true, beq_iff_eq] at hb
        have := hall e he hb.1
        rw [hb.2, mkL_getD, if_neg (fun hh => hkD hh.2)] at this
        have hk1 := List.all_eq_true.1 h1 k hk
        rw [Bool.and_eq_true] at hk1
        have hk2 : base.getD k true = false := by simpa using hk1.1
        rcases Nat.lt_or_ge k base.size with h' | h'
        · simp [h'] at this hk2; rw [this] at hk2; cases hk2
        · simp [Array.getElem?_eq_none h'] at this
      · obtain ⟨e, he, hb⟩ := Array.any_eq_true'.1 h3
        simp only [Bool.and_eq_true, Bool.not_eq_true'] at hb
        have := hall e he hb.1.1
        rw [mkL_getD] at this
        split at this
        · rename_i hh
          have := hD _ hh.2
          have h5 := hb.2
          rw [List.contains_eq_mem] at h5
          simp [this] at h5
        · rw [hb.1.2] at this; cases this

theorem wpAny_sets {base : Array Bool} {idx : List Nat} {f : Nat} (hck : chkS md ops base idx = true) (J : List Nat → Act → World → Prop)
    (hstep : ∀ D a w, J D a w → ∀ i ∈ idx, i ∉ D → wpOp P ops Q i (fun a' w' => J (i :: D) a' w') a w)
    (hdone : ∀ D a w, J D a w → (∀ i ∈ D, i ∈ idx) → (∀ i ∈ idx, i ∈ D) → wpAny P md ops Q f (mkL base D) a w) :
    ∀ k D a w, J D a w → (∀ i ∈ D, i ∈ idx) → (idx.filter fun i => !D.contains i).length ≤ k → wpAny P md ops Q (f + k) (mkL base D) a w := by
  have grow : ∀ (k : Nat) (listed : Array Bool) (a : Act) (w : World), wpAny P md ops Q f listed a w → wpAny P md ops Q (f + k) listed a w := by
    have one : ∀ (f : Nat) (listed : Array Bool) (a : Act) (w : World), wpAny P md ops Q f listed a w → wpAny P md ops Q (f + 1) listed a w := by
      intro f
      induction f with
      | zero => intro listed a w h; exact ⟨fun _ => h.2, fun i hi => by rw [h.1] at hi; cases hi⟩
      | succ f ih => intro listed a w h; exact ⟨h.1, fun i hi => wpOp_mono (fun a' w' h' => ih _ a' w' h') (h.2 i hi)⟩
    intro k
    induction k with
    | zero => intro listed a w h; exact h
    | succ k ih => intro listed a w h; exact one _ _ _ _ (ih _ _ _ h)
  intro k
  induction k with
  | zero =>
    intro D a w hJ hD hk
    refine hdone D a w hJ hD fun i hi => ?_
    have h0 : (idx.filter fun i => !D.contains i) = [] := List.eq_nil_of_length_eq_zero (by omega)
    have := List.filter_eq_nil_iff.1 h0 i hi
    simpa using this
  | succ k ih =>
    intro D a w hJ hD hk
    by_cases hall : ∀ i ∈ idx, i ∈ D
    · exact grow (k + 1) _ _ _ (hdone D a w hJ hD hall)
    · obtain ⟨k0, hk0⟩ := Classical.not_forall.1 hall
      obtain ⟨hk1, hk2⟩ := Classical.not_imp.1 hk0
      obtain ⟨hne, hin⟩ := chkS_spec hck hD hk1 hk2
      refine ⟨fun h0 => absurd h0 hne, fun i hi => ?_⟩
      have hi' := hin i hi
      have hiD := hi'.2
      refine wpOp_mono (fun a' w' h' => ih (i :: D) a' w' h' (fun j hj => ?_) ?_) (hstep D a w hJ i hi'.1 hiD)
      · rcases List.mem_cons.1 hj with rfl | hj
        · exact hi'.1
        · exact hD j hj
      · have hlt : (idx.filter fun j => !(i :: D).contains j).length < (idx.filter fun j => !D.contains j).length := by
          have hsub : (idx.filter fun j => !(i :: D).contains j) = (idx.filter fun j => !D.contains j).filter (fun j => j != i) := by
            rw [List.filter_filter]
            refine List.filter_congr fun j _ => ?_
            by_cases e : j = i <;> simp [e]
          rw [hsub]
          have hm : i ∈ idx.filter fun j => !D.contains j := by simp [List.mem_filter, hi'.1, hiD]
          exact List.length_filter_lt_length_iff_exists.2 ⟨i, hm, by simp⟩
        omega

/-! ### Taking first what yields in whatever world, then going on -/
def wpP (P : Program) (ops : Array Oper) (K : Act → Prop) : List (Nat × Option Oper) → Act → Prop
  | [], a => K a
  | (_, none) :: _, _ => False
  | (_, some o) :: rest, a => ∃ v, Yields P ops o v a ∧ wpP P ops K rest (a.put o.dst v)
def setL (base : Array Bool) : List Nat → Array Bool
  | [] => base
  | i :: l => setL (base.setIfInBounds i true) l
def chkP (md : Region.Mode) (ops : Array Oper) : List Nat → Array Bool → Bool
  | [], _ => true
  | i :: rest, listed => (Region.ready md ops listed).contains i && Region.free md ops listed i && chkP md ops rest (listed.setIfInBounds i true)
theorem wpAny_takes (hs : Region.noSelect ops = true) (hQ : ∀ c a w d v, Q (.panic c) (Act.put a d v) w → Q (.panic c) a w) {w : World} {f : Nat} :
    ∀ (steps : List Nat) (listed : Array Bool) (a : Act), chkP md ops steps listed = true →
      wpP P ops (fun a => wpAny P md ops Q f (setL listed steps) a w) (steps.map fun i => (i, ops[i]?)) a → wpAny P md ops Q (f + steps.length) listed a w
  | [], _, _, _, h => h
  | i :: rest, listed, a, hc, h => by
    simp only [chkP, Bool.and_eq_true] at hc
    cases ho : ops[i]? with
    | none => simp only [List.map_cons, ho, wpP] at h
    | some o =>
      simp only [List.map_cons, ho, wpP] at h
      obtain ⟨v, hy, h2⟩ := h
      refine wpAny_take ho hs hc.1.2 hc.1.1 (fun c a w => hQ c a w _ _) hy ?_
      exact wpAny_takes hs hQ rest _ _ hc.2 h2
theorem wpP_take {o : Oper} {i : Nat} {rest : List (Nat × Option Oper)} {K : Act → Prop} {a : Act} {v : Value} (hg : o.guard = none) (hy : ∀ w, (execOp a.eval o).run P w = .ok (.value v) w) (h : wpP P ops K rest (a.put o.dst v)) : wpP P ops K ((i, some o) :: rest) a :=
  ⟨v, .inl ⟨by simp [Region.wanted, hg], hy⟩, h⟩
/-- The tail, in one order. -/
theorem wpAny_tail (hs : Region.noSelect ops = true) (hQ : ∀ c a w d v, Q (.panic c) (Act.put a d v) w → Q (.panic c) a w) {eff steps : List Nat} {f : Nat} {listed : Array Bool} {a : Act} {w : World} (hf : steps.length ≤ f)
    (hc : chkT md ops [] eff steps listed = true) (h : wpT P md ops Q (fun _ => True) [] eff (steps.map fun i => (i, ops[i]?)) a w) : wpAny P md ops Q f listed a w :=
  wpAny_of_N _ _ _ _ (wpT_sound hs hQ steps f listed a w hf hc (fun _ h => by simp at h) h)

/-! ### Slots that are filled in whatever order -/
def foldPut (v : Nat → Value) : List (Nat × Nat) → Act → Act
  | [], a => a
  | (i, d) :: l, a => foldPut v l (a.put (some d) (v i))
theorem foldPut_comm (v : Nat → Value) (d : Nat) (x : Value) : ∀ (l : List (Nat × Nat)) (a : Act), (∀ p ∈ l, p.2 ≠ d) → (foldPut v l a).put (some d) x = foldPut v l (a.put (some d) x)
  | [], _, _ => rfl
  | (i, d') :: l, a, h => by
    simp only [foldPut]
    rw [foldPut_comm v d x l _ (fun p hp => h p (by simp [hp]))]
    rw [Act.put_comm a (v i) x (x := some d') (y := some d) (fun e he h' => h (i, d') (by simp) (by cases he; cases h'; rfl))]
theorem foldPut_congr (v v' : Nat → Value) : ∀ (l : List (Nat × Nat)) (a : Act), (∀ p ∈ l, v p.1 = v' p.1) → foldPut v l a = foldPut v' l a
  | [], _, _ => rfl
  | (i, d) :: l, a, h => by
    simp only [foldPut]
    rw [h (i, d) (by simp)]
    exact foldPut_congr v v' l _ (fun p hp => h p (by simp [hp]))
theorem put_put (a : Act) (d : Nat) (x y : Value) : (a.put (some d) x).put (some d) y = a.put (some d) y := by
  simp [Act.put]
theorem foldPut_put (v : Nat → Value) (i d : Nat) (x : Value) : ∀ (l : List (Nat × Nat)) (a : Act), (l.map Prod.fst).Nodup → (l.map Prod.snd).Nodup → (i, d) ∈ l → (foldPut v l a).put (some d) x = foldPut (fun j => if j = i then x else v j) l a
  | [], _, _, _, h => by simp at h
  | (i', d') :: l, a, h1, h2, h => by
    simp only [List.map_cons, List.nodup_cons] at h1 h2
    simp only [foldPut]
    by_cases e : i' = i ∧ d' = d
    · obtain ⟨rfl, rfl⟩ := e
      rw [foldPut_comm v d' x l _ (fun p hp he => h2.1 (by rw [← he]; exact List.mem_map_of_mem hp)), put_put, if_pos rfl]
      exact foldPut_congr _ _ l _ (fun p hp => by rw [if_neg (fun he => h1.1 (by rw [← he]; exact List.mem_map_of_mem hp))])
    · have hm : (i, d) ∈ l := by
        rcases List.mem_cons.1 h with h | h
        · exact absurd ⟨(Prod.mk.inj h).1.symm, (Prod.mk.inj h).2.symm⟩ e
        · exact h
      have hne : i' ≠ i := fun he => h1.1 (by rw [he]; exact List.mem_map_of_mem (f := Prod.fst) hm)
      rw [foldPut_put v i d x l _ h1.2 h2.2 hm, if_neg hne]
theorem foldPut_eval (v : Nat → Value) (t : Nat) : ∀ (l : List (Nat × Nat)) (a : Act), (∀ p ∈ l, p.2 ≠ t) → (foldPut v l a).eval (.tmp t) = a.eval (.tmp t)
  | [], _, _ => rfl
  | (i, d) :: l, a, h => by
    simp only [foldPut]
    rw [foldPut_eval v t l _ (fun p hp => h p (by simp [hp]))]
    exact Act.eval_put (fun e he h' => h (i, d) (by simp) (by cases he; cases h'; rfl))

/-- A 'make' at a step. -/
theorem wpOp_mk {i : Nat} {o : Oper} {a : Act} {w : World} {K : Act → World → Prop} (ho : ops[i]? = some o) (t l d : Nat) (hop : o.op = .makeSlice t (.tmp l) (.tmp l)) (hg : o.guard = none) (hd : o.dst = some d)
    (e : TypeId) (ti : TypeInfo) (z : Value) (by_ : Nat) (h1 : P.underlying t = some (.slice e)) (h2 : P.info? e = some ti) (h3 : ti.zero = some z) (h4 : ti.size = 1) (h5 : ti.bytes = by_) (hz1 : z.cells = #[z])
    (n : Nat) (hl : a.eval (.tmp l) = .int .i64 n) (b2 : by_ * n ≤ 281474976710656) (b3 : n ≤ maxLen)
    (hK : K (a.put (some d) (.slice (some ⟨w.heap.size, 0, none⟩) n n)) (w.alloc (.cells (List.replicate n z).toArray e))) : wpOp P ops Q i K a w := by
  subst h5
  have h63' : (n : Int) ≤ 9223372036854775807 := by unfold maxLen at b3; omega
  have hb' : (ti.bytes : Int) * (n : Int) ≤ 281474976710656 := by
    have h : ((ti.bytes * n : Nat) : Int) ≤ 281474976710656 := by omega
    rwa [Int.natCast_mul] at h
  have hrun := run_make (P := P) w t e ti z h1 h2 h3 .i64 .i64 n n (by omega) (Int.le_refl _) hb' h63'
  have e1 : madeCells #[z] n = (List.replicate n z).toArray := by rw [← toList_madeCells_one]
  simp only [Int.toNat_natCast, h4, Nat.mul_one, hz1, e1] at hrun
  unfold wpOp
  have hw : Region.wanted o (yielded ops a.tmps) = true := by simp [Region.wanted, hg]
  simp only [ho, hw, if_true]
  refine .inl ?_
  unfold Oper.wp
  have he : (execOp a.eval o).run P w = .ok (.value (.slice (some ⟨w.heap.size, 0, none⟩) n n)) (w.alloc (.cells (List.replicate n z).toArray e)) := by
    simp [execOp, hop, hl, hrun, Result.andThen]
  rw [he, Oper.upon_value, hd]
  exact hK
end
end Go.Proofs.Qxb6605292a
