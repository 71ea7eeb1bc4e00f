/-
  How many pairs there can be; the new group's tags.
-/
import Derived.Test.Qxb6605292aFinB
namespace Go.Proofs.Qxb6605292a
open Go.RowKit

theorem sumLen_take_le (rows : List (List Int)) (n : Nat) : sumLen (rows.take n) ≤ sumLen rows := by
  have h : sumLen rows = sumLen (rows.take n) + sumLen (rows.drop n) := by
    unfold sumLen
    rw [← List.sum_append, ← List.map_append, List.take_append_drop]
  omega
theorem reach_sum_rows (n : Nat) (rows : List (List Int)) (m : Nat) : ((List.range m).map fun v => (reachL n true rows v).length).sum = sumLen (rows.take m) := by
  induction m with
  | zero => simp [sumLen]
  | succ m ih =>
    rw [List.range_succ, List.map_append, List.sum_append, ih]
    by_cases h : m < rows.length
    · rw [sumLen_take _ _ h]; simp [reachL, h]
    · rw [List.take_of_length_le (by omega), List.take_of_length_le (by omega)]; simp [reachL, List.getElem?_eq_none (by omega : rows.length ≤ m)]
theorem reach_sum_all (n : Nat) (rows : List (List Int)) (m : Nat) : ((List.range m).map fun v => (reachL n false rows v).length).sum = m * n := by
  induction m with
  | zero => simp
  | succ m ih =>
    rw [List.range_succ, List.map_append, List.sum_append, ih, Nat.add_mul]
    simp [reachL, upTo]
theorem pairs_bound (n : Nat) (lk : Bool) (rows : List (List Int)) (O : List Bool) (hn : n ≤ 256) (hs : sumLen rows ≤ 131072) : (finPairs O (reachL n lk rows) n).length ≤ 400000 := by
  unfold finPairs
  rw [List.length_append]
  have h1 := linkPairs_le O (reachL n lk rows) n
  have h2 := srcPairs_le O n n
  cases lk with
  | true =>
    rw [reach_sum_rows] at h1
    have := sumLen_take_le rows n
    omega
  | false =>
    rw [reach_sum_all] at h1
    have : n * n ≤ 256 * 256 := Nat.mul_le_mul hn hn
    omega
theorem row_le_sum {rows : List (List Int)} {r : List Int} (h : r ∈ rows) : r.length ≤ sumLen rows := by
  unfold sumLen
  induction rows with
  | nil => cases h
  | cons x xs ih =>
    rw [List.map_cons, List.sum_cons]
    rcases List.mem_cons.1 h with rfl | h
    · omega
    · have := ih h; omega
/-- A new group is a start. -/
theorem start_new {w : World} {G n : Nat} {nb : Value} {lk : Bool} {rows : List (List Int)} (hr : Rw w G 83 (grp0 n nb)) (hnb : NbAt G w nb n lk rows) (hsz : w.heap.size = G + 1) : Start w (retag (fun _ => 0) G 14) G n lk rows none := by
  refine ⟨nb, ⟨?_, ?_, ?_⟩, hnb, ?_⟩
  · intro t b e l h
    unfold A14 at h
    split at h
    · rename_i et
      subst et
      injection h with h
      injection h with h1 h
      injection h with h2 h3
      subst h1 h2 h3
      exact ⟨by simp [retag], hr⟩
    · cases h
  · intro t v e z n xs h
    cases h
  · intro b hb
    unfold retag
    rw [if_neg (by omega)]
  · intro b hb
    unfold retag
    rw [if_neg (by omega)]
end Go.Proofs.Qxb6605292a
