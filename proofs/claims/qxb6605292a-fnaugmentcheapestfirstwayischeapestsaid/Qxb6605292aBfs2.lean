/-
  The search, plainly: how it begins, what has been worked off, what it has found.
-/
import Derived.Test.Qxb6605292aBfs
namespace Go.Proofs.Qxb6605292a

theorem BI.start {n sink : Nat} {W : Int} (l : List Arc) (source : List Int) {sn vi : List Int} (hs : sink < 2 * n) (hsn : sn.length = 2 * n + 1) (hvi : vi.length = 2 * n + 1) (hold : ∀ x : Nat, ∀ y, sn[x]? = some y → y < W) :
    BI n sink W l source (sn.set sink W) vi [sink] [0] := by
  refine ⟨rfl, by simp, ?_, ?_, ?_, by rw [List.length_set]; exact hsn, hvi, rfl, ?_, ?_, ?_⟩
  · intro x hx; rw [List.mem_singleton] at hx; subst hx; exact hs
  · intro x hx
    by_cases e : sink = x
    · subst e; rw [List.getElem?_set_self (by omega)]; simp
    · rw [List.getElem?_set_ne e, List.mem_singleton]
      exact ⟨fun h => absurd (hold x W h) (by omega), fun h => absurd h.symm e⟩
  · rw [List.getElem?_set_ne (by omega)]
    exact fun h => absurd (hold _ W h) (by omega)
  · intro i x hi hx
    have := (List.getElem?_eq_some_iff.1 hx).1
    simp at this; omega
  · intro i j p r _ hp hr
    have h1 := (List.getElem?_eq_some_iff.1 hp).1
    have h2 := (List.getElem?_eq_some_iff.1 hr).1
    simp at h1 h2
    subst h1 h2
    rw [hp] at hr
    injection hr with e
    omega
  · intro i u b hi hx
    have := (List.getElem?_eq_some_iff.1 hx).1
    simp at this; omega

/-- The first k places are worked off: whoever has an arc with room into them is in the queue, or is the source. -/
def Done (n : Nat) (l : List Arc) (q : List Nat) (k : Nat) : Prop :=
  ∀ p v a y : Nat, p < k → q[p]? = some v → a < l.length → toAt l a = (v : Int) → roomAt l a ≠ 0 → toAt l (twin a) = (y : Int) → y ∈ q ∨ y = 2 * n
/-- Of the row of v the first j are worked off. -/
def DoneJ (n : Nat) (l : List Arc) (q : List Nat) (row : List Int) (j : Nat) : Prop :=
  ∀ i a y : Nat, i < j → row[i]? = some (a : Int) → roomAt l (twin a) ≠ 0 → toAt l a = (y : Int) → y ∈ q ∨ y = 2 * n
theorem Done.grow {n : Nat} {l : List Arc} {q : List Nat} {k : Nat} (h : Done n l q k) (hk : k ≤ q.length) (y : Nat) : Done n l (q ++ [y]) k := by
  intro p v a z hp hq ha ht hr hz
  rw [List.getElem?_append_left (by omega)] at hq
  rcases h p v a z hp hq ha ht hr hz with h | h
  · exact .inl (List.mem_append_left _ h)
  · exact .inr h
theorem DoneJ.grow {n : Nat} {l : List Arc} {q : List Nat} {row : List Int} {j : Nat} (h : DoneJ n l q row j) (y : Nat) : DoneJ n l (q ++ [y]) row j := by
  intro i a z hi hr hm hz
  rcases h i a z hi hr hm hz with h | h
  · exact .inl (List.mem_append_left _ h)
  · exact .inr h
theorem DoneJ.zero (n : Nat) (l : List Arc) (q : List Nat) (row : List Int) : DoneJ n l q row 0 := fun _ _ _ hi => absurd hi (Nat.not_lt_zero _)
theorem DoneJ.succ {n : Nat} {l : List Arc} {q : List Nat} {row : List Int} {j : Nat} (h : DoneJ n l q row j) {a : Nat} (ha : row[j]? = some (a : Int)) (hy : ∀ y : Nat, roomAt l (twin a) ≠ 0 → toAt l a = (y : Int) → y ∈ q ∨ y = 2 * n) : DoneJ n l q row (j + 1) := by
  intro i b z hi hr hm hz
  by_cases e : i = j
  · subst e
    rw [ha] at hr
    injection hr with hr
    have : a = b := by omega
    subst this
    exact hy z hm hz
  · exact h i b z (by omega) hr hm hz
/-- The whole row worked off: one place more is. -/
theorem Done.succ {n : Nat} {l : List Arc} {nodes : List (List Int)} {source : List Int} {q : List Nat} {k v : Nat} (hn : Nw n l nodes source) (h : Done n l q k) (hv : q[k]? = some v) (hj : DoneJ n l q (nodes.getD v []) (nodes.getD v []).length) : Done n l q (k + 1) := by
  intro p u a y hp hq ha ht hr hy
  by_cases e : p = k
  · subst e
    rw [hv] at hq
    injection hq with hq
    subst hq
    have hm := hn.all (twin a) v (hn.twin_lt ha) (by rw [twin_twin]; exact ht)
    obtain ⟨i, hi, he⟩ := List.getElem_of_mem hm
    exact hj i (twin a) y hi (by rw [List.getElem?_eq_getElem hi, he]) (by rw [twin_twin]; exact hr) hy
  · exact h p u a y (by omega) hq ha ht hr hy

/-- The source has been reached: by node f, which leads to place p. -/
def Found (n sink : Nat) (W : Int) (l : List Arc) (source sn vi : List Int) (q par : List Nat) : Prop :=
  ∃ (sn0 vi0 : List Int) (f p v a b : Nat), BI n sink W l source sn0 vi0 q par ∧ f < 2 * n ∧ f ∉ q ∧ sn = (sn0.set f W).set (2 * n) W ∧ vi = (vi0.set f (a : Int)).set (2 * n) (b : Int) ∧
    q[p]? = some v ∧ a < l.length ∧ toAt l a = (v : Int) ∧ toAt l (twin a) = (f : Int) ∧ roomAt l a ≠ 0 ∧ b < l.length ∧ toAt l b = (f : Int) ∧ toAt l (twin b) = ((2 * n : Nat) : Int) ∧ 0 < roomAt l b ∧ (∀ i r : Nat, par[i]? = some r → r ≤ p) ∧ ∃ u : Nat, f = 2 * u ∧ source[u]? = some (b : Int)
/-- Loop 1 holds this at place hh. -/
def L1 (n sink : Nat) (W : Int) (l : List Arc) (source sn vi : List Int) (q par : List Nat) (hh : Nat) : Prop :=
  (BI n sink W l source sn vi q par ∧ hh ≤ q.length ∧ (∀ i r : Nat, par[i]? = some r → r ≤ hh) ∧ Done n l q hh) ∨ (Found n sink W l source sn vi q par ∧ hh ≤ 2 * n)
theorem BI.qlen {n sink : Nat} {W : Int} {l : List Arc} {source sn vi : List Int} {q par : List Nat} (h : BI n sink W l source sn vi q par) : q.length ≤ 2 * n := nodup_len h.nd h.lt
end Go.Proofs.Qxb6605292a
