/-
  Cuts, plainly: what pushing along ways does to the room that leaves a set of nodes, and to the balances.
-/
import Derived.Test.Qxb6605292aWay
import Derived.Test.Qxb6605292aFlow
namespace Go.Proofs.Qxb6605292a

def sumTo (f : Nat → Int) : Nat → Int
  | 0 => 0
  | k + 1 => sumTo f k + f k
theorem sumTo_congr {f g : Nat → Int} {K : Nat} (h : ∀ j, j < K → f j = g j) : sumTo f K = sumTo g K := by
  induction K with
  | zero => rfl
  | succ K ih => unfold sumTo; rw [ih (fun j hj => h j (by omega)), h K (by omega)]
theorem sumTo_one {f g : Nat → Int} {i : Nat} {d : Int} (hi : g i = f i + d) (h : ∀ j, j ≠ i → g j = f j) (K : Nat) : sumTo g K = sumTo f K + if i < K then d else 0 := by
  induction K with
  | zero => simp [sumTo]
  | succ K ih =>
    unfold sumTo
    rw [ih]
    by_cases e : K = i
    · subst e
      rw [hi, if_neg (by omega), if_pos (by omega)]
      omega
    · rw [h K e]
      by_cases h1 : i < K
      · rw [if_pos h1, if_pos (by omega)]; omega
      · rw [if_neg h1, if_neg (by omega)]; omega
theorem sumTo_zero {f : Nat → Int} {K : Nat} (h : ∀ j, j < K → f j = 0) : sumTo f K = 0 := by
  induction K with
  | zero => rfl
  | succ K ih => unfold sumTo; rw [ih (fun j hj => h j (by omega)), h K (by omega)]; rfl
theorem sumTo_nonneg {f : Nat → Int} {K : Nat} (h : ∀ j, j < K → 0 ≤ f j) : 0 ≤ sumTo f K := by
  induction K with
  | zero => exact Int.le_refl _
  | succ K ih =>
    unfold sumTo
    have h1 := ih (fun j hj => h j (by omega))
    have h2 := h K (by omega)
    omega

/-- Does arc a leave S (an arc that X names apart)? -/
def leave (S : Int → Bool) (X : Int → Int → Bool) (l : List Arc) (a : Nat) : Int := ind ((S (toAt l (twin a)) && !S (toAt l a) && !X (toAt l (twin a)) (toAt l a)) = true)
/-- The room that leaves S. -/
def res (S : Int → Bool) (X : Int → Int → Bool) (l : List Arc) : Int := sumTo (fun a => leave S X l a * roomAt l a) l.length
theorem ind_01 (p : Prop) [Decidable p] : ind p = 0 ∨ ind p = 1 := by unfold ind; split <;> simp
theorem leave_setRm (S : Int → Bool) (X : Int → Int → Bool) (l : List Arc) (b : Nat) (r : Int) (a : Nat) : leave S X (setRm l b r) a = leave S X l a := by
  unfold leave; rw [toAt_setRm, toAt_setRm]
theorem res_setRm (S : Int → Bool) (X : Int → Int → Bool) (l : List Arc) {b : Nat} (hb : b < l.length) (r : Int) : res S X (setRm l b r) = res S X l + leave S X l b * (r - roomAt l b) := by
  unfold res
  rw [setRm_len]
  have h := sumTo_one (f := fun a => leave S X l a * roomAt l a) (g := fun a => leave S X (setRm l b r) a * roomAt (setRm l b r) a) (i := b) (d := leave S X l b * (r - roomAt l b))
    (by
      show leave S X (setRm l b r) b * roomAt (setRm l b r) b = _
      rw [leave_setRm, setRm_same _ _ _ hb]
      rcases ind_01 ((S (toAt l (twin b)) && !S (toAt l b) && !X (toAt l (twin b)) (toAt l b)) = true) with e | e
      · unfold leave; rw [e]; omega
      · unfold leave; rw [e]; omega)
    (fun j hj => by
      show leave S X (setRm l b r) j * roomAt (setRm l b r) j = _
      rw [leave_setRm, setRm_ne _ _ (fun e => hj e.symm)]) l.length
  rw [if_pos hb] at h
  exact h
theorem leave_pushAt (S : Int → Bool) (X : Int → Int → Bool) (l : List Arc) (b a : Nat) : leave S X (pushAt l b) a = leave S X l a := by
  unfold leave; rw [toAt_pushAt, toAt_pushAt]
theorem res_pushAt (S : Int → Bool) (X : Int → Int → Bool) (l : List Arc) {a : Nat} (ha : a < l.length) (ht : twin a < l.length) : res S X (pushAt l a) = res S X l - (leave S X l a - leave S X l (twin a)) := by
  unfold pushAt
  rw [res_setRm S X _ (by rw [setRm_len]; exact ht), res_setRm S X l ha, leave_setRm, setRm_ne _ _ (fun e => twin_ne a e.symm)]
  have e1 : roomAt l a - 1 - roomAt l a = -1 := by omega
  have e2 : roomAt l (twin a) + 1 - roomAt l (twin a) = 1 := by omega
  rw [e1, e2]
  omega
/-- And the balance. -/
theorem balF_setRm (l : List Arc) (b : Nat) (r : Int) (hb : b < l.length) (K x : Nat) : balF (setRm l b r) K x = balF l K x + if b % 2 = 1 ∧ b < 2 * K then (r - roomAt l b) * (ind (toAt l (b - 1) = (x : Int)) - ind (toAt l b = (x : Int))) else 0 := by
  induction K with
  | zero => simp [balF]
  | succ K ih =>
    unfold balF
    rw [ih, toAt_setRm, toAt_setRm]
    by_cases e : b = 2 * K + 1
    · subst e
      rw [setRm_same _ _ _ hb, if_neg (by omega), if_pos (by omega)]
      show _ + 0 + _ = _
      have e1 : 2 * K + 1 - 1 = 2 * K := by omega
      rw [e1, Int.add_zero, Int.add_assoc, ← Int.add_mul]
      congr 2
      omega
    · rw [setRm_ne _ _ e]
      by_cases h1 : b % 2 = 1 ∧ b < 2 * K
      · rw [if_pos h1, if_pos (by omega)]; omega
      · rw [if_neg h1, if_neg (by omega)]; omega
theorem balF_pushAt (l : List Arc) {a K : Nat} (hl : l.length = 2 * K) (ha : a < l.length) (x : Nat) : balF (pushAt l a) K x = balF l K x + (ind (toAt l a = (x : Int)) - ind (toAt l (twin a) = (x : Int))) := by
  have ht : twin a < l.length := by unfold twin; split <;> omega
  unfold pushAt
  rw [balF_setRm _ _ _ (by rw [setRm_len]; exact ht), balF_setRm l _ _ ha, toAt_setRm, toAt_setRm, setRm_ne _ _ (fun e => twin_ne a e.symm)]
  have e1 : roomAt l a - 1 - roomAt l a = -1 := by omega
  have e2 : roomAt l (twin a) + 1 - roomAt l (twin a) = 1 := by omega
  rw [e1, e2]
  by_cases e : a % 2 = 1
  · have et : twin a = a - 1 := by unfold twin; rw [if_neg (by omega)]
    rw [if_pos ⟨e, by omega⟩, if_neg (by omega), et]
    omega
  · have et : twin a = a + 1 := by unfold twin; rw [if_pos (by omega)]
    rw [if_neg (by omega), if_pos (by omega), et]
    have e3 : a + 1 - 1 = a := by omega
    rw [e3]
    omega
/-- Sums along a list of arcs. -/
def sumL (f : Nat → Int) (br : List Nat) : Int := (br.map f).sum
theorem sumL_cons (f : Nat → Int) (a : Nat) (br : List Nat) : sumL f (a :: br) = f a + sumL f br := by simp [sumL]
theorem sumL_append (f : Nat → Int) (br cr : List Nat) : sumL f (br ++ cr) = sumL f br + sumL f cr := by simp [sumL]
theorem sumL_reverse (f : Nat → Int) (br : List Nat) : sumL f br.reverse = sumL f br := by
  induction br with
  | nil => rfl
  | cons a br ih => rw [List.reverse_cons, sumL_append, ih, sumL_cons, sumL_cons]; simp [sumL]; omega
theorem res_pushAll (S : Int → Bool) (X : Int → Int → Bool) : ∀ (br : List Nat) (l : List Arc), (∀ a ∈ br, a < l.length ∧ twin a < l.length) → res S X (pushAll l br) = res S X l - sumL (fun a => leave S X l a - leave S X l (twin a)) br := by
  intro br
  induction br with
  | nil => intro l _; simp [pushAll, sumL]
  | cons a br ih =>
    intro l h
    have ha := h a List.mem_cons_self
    show res S X (pushAll (pushAt l a) br) = _
    rw [ih _ (fun b hb => by rw [pushAt_len]; exact h b (List.mem_cons_of_mem _ hb)), res_pushAt S X l ha.1 ha.2, sumL_cons]
    have e : sumL (fun b => leave S X (pushAt l a) b - leave S X (pushAt l a) (twin b)) br = sumL (fun b => leave S X l b - leave S X l (twin b)) br := by
      congr 1
      funext b
      rw [leave_pushAt, leave_pushAt]
    rw [e]
    omega
theorem balF_pushAll {K : Nat} (x : Nat) : ∀ (br : List Nat) (l : List Arc), l.length = 2 * K → (∀ a ∈ br, a < l.length) → balF (pushAll l br) K x = balF l K x + sumL (fun a => ind (toAt l a = (x : Int)) - ind (toAt l (twin a) = (x : Int))) br := by
  intro br
  induction br with
  | nil => intro l _ _; simp [pushAll, sumL]
  | cons a br ih =>
    intro l hl h
    show balF (pushAll (pushAt l a) br) K x = _
    rw [ih _ (by rw [pushAt_len]; exact hl) (fun b hb => by rw [pushAt_len]; exact h b (List.mem_cons_of_mem _ hb)), balF_pushAt l hl (h a List.mem_cons_self), sumL_cons]
    have e : sumL (fun b => ind (toAt (pushAt l a) b = (x : Int)) - ind (toAt (pushAt l a) (twin b) = (x : Int))) br = sumL (fun b => ind (toAt l b = (x : Int)) - ind (toAt l (twin b) = (x : Int))) br := by
      congr 1
      funext b
      rw [toAt_pushAt, toAt_pushAt]
    rw [e]
    omega
/-- Along a way the sums shrink to its ends. -/
theorem Way.tele {l : List Arc} {vi : List Int} {x sink : Nat} {ns ar : List Nat} (h : Way l vi x sink ns ar) (g : Int → Int) (f : Nat → Int) (hf : ∀ a ∈ ar, f a = g (toAt l (twin a)) - g (toAt l a)) : sumL f ar = g (x : Int) - g (sink : Int) := by
  have key : ∀ k y, k ≤ ar.length → ns[k]? = some y → sumL f (ar.take k) = g (x : Int) - g ((y : Nat) : Int) := by
    intro k
    induction k with
    | zero =>
      intro y _ hy
      have := h.hd
      rw [hy] at this
      injection this with this
      subst this
      simp [sumL]
    | succ k ih =>
      intro y hk hy
      have ha : ar[k]? = some ar[k] := List.getElem?_eq_getElem (by omega)
      obtain ⟨u, v, h1, h2, _, _, h5, h6, _⟩ := h.arc k _ ha
      rw [hy] at h2
      injection h2 with h2
      subst h2
      rw [take_snoc ha, sumL_append, ih u (by omega) h1, sumL_cons, hf _ (List.getElem_mem _), h5, h6]
      simp [sumL]
      omega
  have := key ar.length sink (Nat.le_refl _) h.last
  rw [List.take_length] at this
  exact this
/-- Along a way from S to outside one unit of S's room goes. -/
theorem Way.cut {l : List Arc} {vi : List Int} {x sink : Nat} {ns ar : List Nat} (h : Way l vi x sink ns ar) (S : Int → Bool) (X : Int → Int → Bool) (hx : S x = true) (hs : S sink = false) (hX : ∀ a ∈ ar, X (toAt l (twin a)) (toAt l a) = false ∧ X (toAt l a) (toAt l (twin a)) = false) : sumL (fun a => leave S X l a - leave S X l (twin a)) ar = 1 := by
  have := h.tele (fun z => ind (S z = true)) (fun a => leave S X l a - leave S X l (twin a)) (fun a ha => by
    obtain ⟨h1, h2⟩ := hX a ha
    unfold leave
    rw [twin_twin, h1, h2]
    cases S (toAt l (twin a)) <;> cases S (toAt l a) <;> simp [ind])
  rw [this]
  simp [ind, hx, hs]
theorem Way.balance {l : List Arc} {vi : List Int} {x sink : Nat} {ns ar : List Nat} (h : Way l vi x sink ns ar) (z : Nat) : sumL (fun a => ind (toAt l a = (z : Int)) - ind (toAt l (twin a) = (z : Int))) ar = ind (sink = z) - ind (x = z) := by
  have := h.tele (fun y => - ind (y = (z : Int))) (fun a => ind (toAt l a = (z : Int)) - ind (toAt l (twin a) = (z : Int))) (fun a ha => by omega)
  rw [this]
  have e1 : ind ((x : Int) = (z : Int)) = ind (x = z) := by unfold ind; simp only [Int.ofNat_inj]
  have e2 : ind ((sink : Int) = (z : Int)) = ind (sink = z) := by unfold ind; simp only [Int.ofNat_inj]
  show - ind ((x : Int) = (z : Int)) - - ind ((sink : Int) = (z : Int)) = _
  rw [e1, e2]; omega
end Go.Proofs.Qxb6605292a
