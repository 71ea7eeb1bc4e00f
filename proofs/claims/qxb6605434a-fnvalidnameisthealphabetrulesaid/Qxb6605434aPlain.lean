/-
  The name rule, plainly: bytes as numbers.
-/
import Derived.Test.Qxb6605434aRows
import Derived.WalkKit
namespace Go.Proofs.Qxb6605434a

def bl (s : ByteArray) : List Nat := s.data.toList.map UInt8.toNat
theorem bl_len (s : ByteArray) : (bl s).length = s.size := by
  unfold bl
  rw [List.length_map, Array.length_toList]
  rfl
theorem bl_get (s : ByteArray) (i : Nat) (h : i < s.size) : s[i].toNat = (bl s)[i]'(by rw [bl_len]; exact h) := by
  simp [bl]
  rfl
theorem bl_small (s : ByteArray) : ∀ x ∈ bl s, x < 256 := by
  intro x hx
  unfold bl at hx
  obtain ⟨b, _, rfl⟩ := List.mem_map.1 hx
  exact UInt8.toNat_lt b
def al (c : Nat) : Bool := (97 ≤ c && c ≤ 122) || (65 ≤ c && c ≤ 90) || (48 ≤ c && c ≤ 57)
def dt (c : Nat) : Bool := c == 46 || c == 95 || c == 45
def okAt (xs : List Nat) (i : Nat) : Bool := match xs[i]? with
  | none => true
  | some c => al c || (i != 0 && dt c)
def okTo (xs : List Nat) (k : Nat) : Bool := (List.range k).all (okAt xs)
def validL (xs : List Nat) : Bool := xs.length != 0 && decide (xs.length ≤ 64) && okTo xs xs.length
/-- zzCountIn. -/
def cntIn (xs ys : List Nat) : Nat := (ys.map fun c => xs.count c).sum
def alphaL : List Nat := [97, 98, 99, 100, 101, 102, 103, 104, 105, 106, 107, 108, 109, 110, 111, 112, 113, 114, 115, 116, 117, 118, 119, 120, 121, 122, 65, 66, 67, 68, 69, 70, 71, 72, 73, 74, 75, 76, 77, 78, 79, 80, 81, 82, 83, 84, 85, 86, 87, 88, 89, 90, 48, 49, 50, 51, 52, 53, 54, 55, 56, 57]
def anyL : List Nat := alphaL ++ [46, 95, 45]
def ruleL (xs : List Nat) : Bool := xs.length != 0 && decide (xs.length ≤ 64) && cntIn (xs.take 1) alphaL == 1 && cntIn xs anyL == xs.length

theorem cntIn_take (xs ys : List Nat) (j : Nat) (h : j < ys.length) : cntIn xs (ys.take (j + 1)) = cntIn xs (ys.take j) + xs.count ys[j] := by
  unfold cntIn
  rw [List.take_succ_eq_append_getElem h, List.map_append, List.sum_append]; simp
theorem count_take (xs : List Nat) (c i : Nat) (h : i < xs.length) : (xs.take (i + 1)).count c = (xs.take i).count c + if xs[i] = c then 1 else 0 := by
  rw [List.take_succ_eq_append_getElem h, List.count_append, List.count_singleton]
  by_cases e : xs[i] = c <;> simp [e]
theorem cntIn_le (xs ys : List Nat) : cntIn xs ys ≤ ys.length * xs.length := by
  unfold cntIn
  induction ys with
  | nil => simp
  | cons y ys ih =>
    rw [List.map_cons, List.sum_cons, List.length_cons, Nat.add_mul]
    have : xs.count y ≤ xs.length := List.count_le_length
    omega
theorem cntIn_cons (x : Nat) (xs ys : List Nat) : cntIn (x :: xs) ys = ys.count x + cntIn xs ys := by
  unfold cntIn
  induction ys with
  | nil => simp
  | cons y ys ih =>
    rw [List.map_cons, List.sum_cons, ih, List.map_cons, List.sum_cons, List.count_cons, List.count_cons]
    by_cases e : x = y
    · subst e; simp; omega
    · have e' : ¬ y = x := fun h => e h.symm
      simp [e, e']; omega
theorem cntIn_nil (ys : List Nat) : cntIn [] ys = 0 := by
  have := cntIn_le [] ys
  simpa using this
theorem alpha_count : ∀ x, x < 256 → alphaL.count x = if al x then 1 else 0 := by decide +kernel
theorem any_count : ∀ x, x < 256 → anyL.count x = if al x || dt x then 1 else 0 := by decide +kernel
theorem cntIn_of (p : Nat → Bool) (ys : List Nat) (hp : ∀ x, x < 256 → ys.count x = if p x then 1 else 0) (xs : List Nat) (h : ∀ x ∈ xs, x < 256) : cntIn xs ys = xs.countP p := by
  induction xs with
  | nil => exact cntIn_nil ys
  | cons x xs ih =>
    rw [cntIn_cons, ih (fun y hy => h y (List.mem_cons_of_mem _ hy)), hp x (h x List.mem_cons_self), List.countP_cons]
    omega
theorem okTo_succ (xs : List Nat) (k : Nat) : okTo xs (k + 1) = (okTo xs k && okAt xs k) := by
  unfold okTo; rw [List.range_succ, List.all_append]; simp
theorem okTo_no (xs : List Nat) (k : Nat) (h : okAt xs k = false) (hk : k < xs.length) : validL xs = false := by
  have : okTo xs xs.length = false := by
    unfold okTo; rw [List.all_eq_false]; exact ⟨k, by simpa using hk, by simp [h]⟩
  unfold validL; rw [this]; simp
theorem okTo_cons (x : Nat) (xs : List Nat) : okTo (x :: xs) (xs.length + 1) = (al x && xs.all fun c => al c || dt c) := by
  rw [Bool.eq_iff_iff]
  unfold okTo
  rw [List.all_eq_true, Bool.and_eq_true, List.all_eq_true]
  constructor
  · intro h
    constructor
    · have := h 0 (by simp)
      simpa [okAt] using this
    · intro c hc
      obtain ⟨i, hi, rfl⟩ := List.getElem_of_mem hc
      have := h (i + 1) (by simp; omega)
      simpa [okAt, hi] using this
  · rintro ⟨h1, h2⟩ i hi
    cases i with
    | zero => simp [okAt, h1]
    | succ i =>
      have hi' : i < xs.length := by simpa using hi
      have := h2 xs[i] (List.getElem_mem hi')
      simpa [okAt, hi'] using this
theorem rule_valid (xs : List Nat) (h : ∀ x ∈ xs, x < 256) : validL xs = ruleL xs := by
  cases xs with
  | nil => rfl
  | cons x xs =>
    unfold validL ruleL
    rw [cntIn_of (fun x => al x || dt x) anyL any_count _ h, cntIn_of al alphaL alpha_count ((x :: xs).take 1) (fun y hy => h y (List.mem_of_mem_take hy)), List.length_cons, okTo_cons]
    have e1 : List.countP al ((x :: xs).take 1) = if al x then 1 else 0 := by simp [List.countP_cons]
    have e2 : (List.countP (fun x => al x || dt x) (x :: xs) == xs.length + 1) = ((al x || dt x) && xs.all fun c => al c || dt c) := by
      rw [Bool.eq_iff_iff, beq_iff_eq, ← List.length_cons (a := x), List.countP_eq_length, Bool.and_eq_true, List.all_eq_true]
      simp
    rw [e1, e2]
    cases al x <;> simp
end Go.Proofs.Qxb6605434a
