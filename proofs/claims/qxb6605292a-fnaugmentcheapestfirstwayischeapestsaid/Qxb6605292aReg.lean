/-
  A region that draws its order, walked in ONE order. 'eff': the operations that change the world, each of which comes up alone once the others that may come up have been taken; 'held': the loads, which yield the same in every world that meets S0; all others yield in whatever world.
  S0 is to be shown anew only behind an effect that some held operation does not stand ahead of: so a last store may change what was read.
-/
import Derived.OrdersHeld
import Derived.WalkKit
namespace Go.Proofs.Qxb6605292a
section
variable {P : Program} {ops : Array Oper} {Q : Exit → Act → World → Prop} {md : Region.Mode} {S0 : World → Prop} {held eff : List Nat}

/-- Must S0 be shown anew behind operation j? -/
def needs (ops : Array Oper) (md : Region.Mode) (held : List Nat) (j : Nat) : Bool :=
  held.any fun i => i != j && match ops[j]? with
    | some o => !(o.after.any fun e => Region.binds md e && e.on == i)
    | none => true
/-- What is asked behind operation j, from world w to w'. -/
def Obl (ops : Array Oper) (md : Region.Mode) (S0 : World → Prop) (held eff : List Nat) (j : Nat) (w w' : World) : Prop :=
  if eff.contains j = true then (needs ops md held j = true → S0 w') else (S0 w → S0 w')

def wpAnyN (P : Program) (md : Region.Mode) (ops : Array Oper) (Q : Exit → Act → World → Prop) (S0 : World → Prop) (held eff : List Nat) : Nat → Array Bool → Act → World → Prop
  | 0, listed, a, w => Region.ready md ops listed = [] ∧ Q .normal a w
  | fuel + 1, listed, a, w =>
    (Region.ready md ops listed = [] → Q .normal a w) ∧
    ∀ i ∈ Region.ready md ops listed, wpOp P ops Q i (fun a' w' => Obl ops md S0 held eff i w w' ∧ wpAnyN P md ops Q S0 held eff fuel (listed.setIfInBounds i true) a' w') a w

theorem wpAny_of_N : ∀ (fuel : Nat) (listed : Array Bool) (a : Act) (w : World), wpAnyN P md ops Q S0 held eff fuel listed a w → wpAny P md ops Q fuel listed a w
  | 0, _, _, _, h => h
  | fuel + 1, _, _, _, h => ⟨h.1, fun i hi => wpOp_mono (fun a' w' h' => wpAny_of_N fuel _ a' w' h'.2) (h.2 i hi)⟩

theorem needs_of {i j : Nat} {oj : Oper} (hj : ops[j]? = some oj) (hh : held.contains i = true) (hne : i ≠ j) (hno : ∀ e ∈ oj.after, Region.binds md e = true → e.on ≠ i) : needs ops md held j = true := by
  unfold needs
  rw [List.any_eq_true]
  refine ⟨i, by simpa using hh, ?_⟩
  rw [hj]
  simp only [Bool.and_eq_true, bne_iff_ne, ne_eq, hne, not_false_eq_true, true_and, Bool.not_eq_true', Array.any_eq_false']
  intro e hem
  simp only [beq_iff_eq, not_and]
  exact hno e hem

theorem wpAnyN_first {i : Nat} {oi : Oper} {v : Value} (hi : ops[i]? = some oi) (hsel : ∀ (j : Nat) (o : Oper) cs b, ops[j]? = some o → o.op ≠ .select cs b)
    (hQ : ∀ c a w, Q (.panic c) (a.put oi.dst v) w → Q (.panic c) a w) (hie : eff.contains i = false) :
    ∀ (fuel : Nat) (listed : Array Bool) (a : Act) (w : World),
      (∀ j oj, ops[j]? = some oj → j ≠ i → listed.getD j true = false → (∀ e ∈ oj.after, Region.binds md e = true → e.on ≠ i) → oi.apart ops oj = true) →
      i ∈ Region.ready md ops listed → YieldsIf P ops (fun w => held.contains i = true → S0 w) oi v a → (held.contains i = true → S0 w) →
      wpAnyN P md ops Q S0 held eff fuel (listed.setIfInBounds i true) (a.put oi.dst v) w → wpAnyN P md ops Q S0 held eff (fuel + 1) listed a w := by
  intro fuel
  have own : ∀ (a : Act) (w : World) (K : Act → World → Prop), YieldsIf P ops (fun w => held.contains i = true → S0 w) oi v a → (held.contains i = true → S0 w) → K (a.put oi.dst v) w → wpOp P ops Q i (fun a' w' => Obl ops md S0 held eff i w w' ∧ K a' w') a w :=
    fun a w K hy hS hk => hy.wpOp hi hS ⟨by unfold Obl; rw [hie]; simp, hk⟩
  induction fuel with
  | zero =>
    intro listed a w _ hr hy hS H
    refine ⟨fun h => (by rw [h] at hr; cases hr), fun j hj => ?_⟩
    by_cases hji : j = i
    · subst hji; exact own _ _ _ hy hS H
    · have := ready_mono hj hji
      rw [H.1] at this
      cases this
  | succ fuel ih =>
    intro listed a w hfree hr hy hS H
    refine ⟨fun h => (by rw [h] at hr; cases hr), fun j hj => ?_⟩
    by_cases hji : j = i
    · subst hji; exact own _ _ _ hy hS H
    · have h1 := H.2 j (ready_mono hj hji)
      obtain ⟨hjun, oj, hoj, hall⟩ := mem_ready.1 hj
      have hnot : ∀ e ∈ oj.after, Region.binds md e = true → e.on ≠ i := fun e he hb heq => by
        have h1 := hall e he hb
        have h0 := (mem_ready.1 hr).1
        rw [heq] at h1
        rcases Nat.lt_or_ge i listed.size with h' | h'
        · simp [h'] at h0 h1; rw [h0] at h1; cases h1
        · simp [Array.getElem?_eq_none h'] at h1
      have h2 := wpOp_putIf hoj (hfree j oj hoj hji hjun hnot) (fun cs b => hsel i oi cs b hi) (fun cs b => hsel j oj cs b hoj) hQ hy h1
      have hfree' : ∀ k ok, ops[k]? = some ok → k ≠ i → (listed.setIfInBounds j true).getD k true = false →
          (∀ e ∈ ok.after, Region.binds md e = true → e.on ≠ i) → oi.apart ops ok = true := fun k ok hk hki hun hno => by
        refine hfree k ok hk hki ?_ hno
        by_cases hjk : j = k
        · subst hjk; exact hjun
        · rw [getD_set_ne true hjk] at hun; exact hun
      refine wpOp_mono (fun a' w' h3 => ⟨h3.2.1, ih (listed.setIfInBounds j true) a' w' hfree' (ready_mono hr (Ne.symm hji)) h3.1 ?_ ?_⟩) h2
      · intro hh
        have ho := h3.2.1
        unfold Obl at ho
        split at ho
        · exact ho (needs_of hoj hh (Ne.symm hji) hnot)
        · exact ho (hS hh)
      · rw [Array.setIfInBounds_comm _ _ hji]
        exact h3.2.2

/-! ### The walk in one order -/
/-- The walk: each operation by its number and its text. -/
def wpT (P : Program) (md : Region.Mode) (ops : Array Oper) (Q : Exit → Act → World → Prop) (S0 : World → Prop) (held eff : List Nat) : List (Nat × Option Oper) → Act → World → Prop
  | [], a, w => Q .normal a w
  | (_, none) :: _, _, _ => False
  | (i, some o) :: rest, a, w =>
    match eff.contains i with
    | true => o.wp P a w (fun a' w' => (needs ops md held i = true → S0 w') ∧ wpT P md ops Q S0 held eff rest a' w') Q
    | false => ∃ v, YieldsIf P ops (fun w => held.contains i = true → S0 w) o v a ∧ wpT P md ops Q S0 held eff rest (a.put o.dst v) w

/-- Is this an order in which the region may be walked so? -/
def chkT (md : Region.Mode) (ops : Array Oper) (held eff : List Nat) : List Nat → Array Bool → Bool
  | [], listed => (Region.ready md ops listed).isEmpty
  | i :: rest, listed =>
    (match ops[i]? with
     | some o => match eff.contains i with
       | true => Region.ready md ops listed == [i] && o.guard.isNone
       | false => (Region.ready md ops listed).contains i && Region.free md ops listed i
     | none => false) && chkT md ops held eff rest (listed.setIfInBounds i true)

theorem getD_set_false {listed : Array Bool} {i j : Nat} (h : (listed.setIfInBounds i true).getD j true = false) : listed.getD j true = false := by
  by_cases hij : i = j
  · subst hij
    rcases Nat.lt_or_ge i listed.size with h' | h'
    · simp [h'] at h
    · have hn : (listed.setIfInBounds i true)[i]? = none := Array.getElem?_eq_none (by simpa using h')
      rw [Array.getD_eq_getD_getElem?, hn] at h; cases h
  · rw [getD_set_ne true hij] at h; exact h

theorem wpT_sound (hs : Region.noSelect ops = true) (hQ : ∀ c a w d v, Q (.panic c) (Act.put a d v) w → Q (.panic c) a w) :
    ∀ (steps : List Nat) (fuel : Nat) (listed : Array Bool) (a : Act) (w : World), steps.length ≤ fuel → chkT md ops held eff steps listed = true →
      (∀ i, held.contains i = true → listed.getD i true = false → S0 w) →
      wpT P md ops Q S0 held eff (steps.map fun i => (i, ops[i]?)) a w → wpAnyN P md ops Q S0 held eff fuel listed a w
  | [], fuel, listed, a, w, _, hc, _, h => by
    have hr : Region.ready md ops listed = [] := by simpa [chkT] using hc
    cases fuel with
    | zero => exact ⟨hr, h⟩
    | succ fuel => exact ⟨fun _ => h, by rw [hr]; simp⟩
  | i :: rest, 0, listed, a, w, hf, _, _, _ => by simp at hf
  | i :: rest, fuel + 1, listed, a, w, hf, hc, hS, h => by
    have hf' : rest.length ≤ fuel := by simpa using hf
    simp only [chkT, Bool.and_eq_true] at hc
    obtain ⟨hc1, hc2⟩ := hc
    cases ho : ops[i]? with
    | none => rw [ho] at hc1; cases hc1
    | some o =>
      rw [ho] at hc1
      simp only [List.map_cons, ho, wpT] at h
      cases he : eff.contains i with
      | true =>
        rw [he] at hc1 h
        simp only [Bool.and_eq_true, beq_iff_eq] at hc1
        obtain ⟨hr, hg⟩ := hc1
        have hw : Region.wanted o (yielded ops a.tmps) = true := by
          unfold Region.wanted
          cases hgd : o.guard with
          | none => rfl
          | some x => rw [hgd] at hg; cases hg
        have hall : ∀ e ∈ o.after, Region.binds md e = true → listed.getD e.on false = true := by
          have : i ∈ Region.ready md ops listed := by rw [hr]; simp
          obtain ⟨_, o', ho', hall⟩ := mem_ready.1 this
          rw [ho] at ho'; cases ho'; exact hall
        refine ⟨fun h0 => (by rw [hr] at h0; cases h0), fun j hj => ?_⟩
        rw [hr] at hj
        simp only [List.mem_singleton] at hj
        subst hj
        unfold wpOp
        simp only [ho, hw, if_true]
        refine .inl (Oper.wp_mono (fun a' w' h' => ⟨?_, wpT_sound hs hQ rest fuel _ a' w' hf' hc2 ?_ h'.2⟩) h)
        · unfold Obl; rw [if_pos he]; exact h'.1
        · intro k hk hun
          refine h'.1 (needs_of ho hk ?_ ?_)
          · rintro rfl
            rcases Nat.lt_or_ge k listed.size with h' | h'
            · simp [h'] at hun
            · have hn : (listed.setIfInBounds k true)[k]? = none := Array.getElem?_eq_none (by simpa using h'); rw [Array.getD_eq_getD_getElem?, hn] at hun; cases hun
          · intro e hem hb heq
            have h1 := hall e hem hb
            have h2 := getD_set_false hun
            rw [heq] at h1
            rcases Nat.lt_or_ge k listed.size with h' | h'
            · simp [h'] at h1 h2; rw [h1] at h2; cases h2
            · simp [Array.getElem?_eq_none h'] at h1
      | false =>
        rw [he] at hc1 h
        simp only [Bool.and_eq_true] at hc1
        obtain ⟨v, hy, h2⟩ := h
        have hr : i ∈ Region.ready md ops listed := by simpa using hc1.1
        refine wpAnyN_first ho (Region.noSelect_spec hs) (fun c a w => hQ c a w _ _) he fuel listed a w (Region.free_spec ho hc1.2) hr hy ?_ (wpT_sound hs hQ rest fuel _ _ w hf' hc2 ?_ h2)
        · intro hh; exact hS i hh (mem_ready.1 hr).1
        · intro k hk hun; exact hS k hk (getD_set_false hun)

/-- THE BEGINNING. -/
theorem wp_region_T {id : Nat} {a : Act} {w : World} (S0 : World → Prop) (held eff steps : List Nat) (hm : P.follows .mixedOrders = true) (hs : Region.noSelect ops = true)
    (hl : steps.length = ops.size) (hc : chkT .any ops held eff steps (Array.replicate ops.size false) = true)
    (hQ : ∀ c a w d v, Q (.panic c) (Act.put a d v) w → Q (.panic c) a w) (hS : S0 w.drew)
    (h : wpT P .any ops Q S0 held eff (steps.map fun i => (i, ops[i]?)) a w.drew) : (Code.region id ops true).wp P Q a w :=
  wp_region_any hm (wpAny_of_N _ _ _ _ (wpT_sound hs hQ steps ops.size _ a _ (Nat.le_of_eq hl) hc (fun _ _ _ => hS) h))

/-- Take one: it yields in whatever world. -/
theorem wpT_take {i : Nat} {o : Oper} {rest : List (Nat × Option Oper)} {a : Act} {w : World} {v : Value} (he : eff.contains i = false) (hg : o.guard = none)
    (hy : ∀ w, (execOp a.eval o).run P w = .ok (.value v) w) (h : wpT P md ops Q S0 held eff rest (a.put o.dst v) w) : wpT P md ops Q S0 held eff ((i, some o) :: rest) a w := by
  unfold wpT
  rw [he]
  exact ⟨v, .inl ⟨by simp [Region.wanted, hg], fun w _ => hy w⟩, h⟩
/-- Take one: it yields in every world that meets S0. -/
theorem wpT_held {i : Nat} {o : Oper} {rest : List (Nat × Option Oper)} {a : Act} {w : World} {v : Value} (he : eff.contains i = false) (hh : held.contains i = true) (hg : o.guard = none)
    (hy : ∀ w, S0 w → (execOp a.eval o).run P w = .ok (.value v) w) (h : wpT P md ops Q S0 held eff rest (a.put o.dst v) w) : wpT P md ops Q S0 held eff ((i, some o) :: rest) a w := by
  unfold wpT
  rw [he]
  exact ⟨v, .inl ⟨by simp [Region.wanted, hg], fun w hS => hy w (hS hh)⟩, h⟩
/-- An effect. -/
theorem wpT_eff {i : Nat} {o : Oper} {rest : List (Nat × Option Oper)} {a : Act} {w : World} (he : eff.contains i = true)
    (h : ∀ K : Act → World → Prop, (∀ a' w', (needs ops md held i = true → S0 w') → wpT P md ops Q S0 held eff rest a' w' → K a' w') → o.wp P a w K Q) : wpT P md ops Q S0 held eff ((i, some o) :: rest) a w := by
  unfold wpT
  rw [he]
  exact h _ (fun a' w' h1 h2 => ⟨h1, h2⟩)
/-- An effect behind which nothing is read any more. -/
theorem wpT_last {i : Nat} {o : Oper} {rest : List (Nat × Option Oper)} {a : Act} {w : World} (he : eff.contains i = true) (hn : needs ops md held i = false)
    (h : ∀ K : Act → World → Prop, (∀ a' w', wpT P md ops Q S0 held eff rest a' w' → K a' w') → o.wp P a w K Q) : wpT P md ops Q S0 held eff ((i, some o) :: rest) a w :=
  wpT_eff he fun K hK => h K fun a' w' h' => hK a' w' (fun hh => by rw [hn] at hh; cases hh) h'
theorem wpT_nil {a : Act} {w : World} (h : Q .normal a w) : wpT P md ops Q S0 held eff [] a w := h
end
end Go.Proofs.Qxb6605292a
