/-
  The network that finder lays, as plain lists: pairs (tail, head, full, cost).
-/
import Derived.Test.Qxb6605292aFin
namespace Go.Proofs.Qxb6605292a

structure Pr where
  a : Nat
  b : Nat
  full : Int
  cost : Int
def addPair (st : List (List Int) × List Arc) (p : Pr) : List (List Int) × List Arc :=
  ((st.1.set p.a (st.1.getD p.a [] ++ [(st.2.length : Int)])).set p.b ((st.1.set p.a (st.1.getD p.a [] ++ [(st.2.length : Int)])).getD p.b [] ++ [(st.2.length : Int) + 1]),
   st.2 ++ [⟨p.b, p.full, p.full, p.cost⟩] ++ [⟨p.a, 0, 0, -p.cost⟩])
def lay (ps : List Pr) (st : List (List Int) × List Arc) : List (List Int) × List Arc := ps.foldl addPair st
def netOf (V : Nat) (ps : List Pr) : List (List Int) × List Arc := lay ps (List.replicate V [], [])
theorem netOf_snoc (V : Nat) (ps : List Pr) (p : Pr) : netOf V (ps ++ [p]) = addPair (netOf V ps) p := by simp [netOf, lay]
theorem netOf_arcs (V : Nat) (ps : List Pr) : (netOf V ps).2.length = 2 * ps.length := by
  have : ∀ (ps : List Pr) (st : List (List Int) × List Arc), (lay ps st).2.length = st.2.length + 2 * ps.length := by
    intro ps
    induction ps with
    | nil => intro st; simp [lay]
    | cons p ps ih =>
      intro st
      have := ih (addPair st p)
      simp only [lay, List.foldl_cons] at this ⊢
      rw [this]
      simp [addPair]
      omega
  simp [netOf, this]
theorem netOf_len (V : Nat) (ps : List Pr) : (netOf V ps).1.length = V := by
  have : ∀ (ps : List Pr) (st : List (List Int) × List Arc), (lay ps st).1.length = st.1.length := by
    intro ps
    induction ps with
    | nil => intro st; simp [lay]
    | cons p ps ih =>
      intro st
      have := ih (addPair st p)
      simp only [lay, List.foldl_cons] at this ⊢
      rw [this]
      simp [addPair]
  simp [netOf, this]
theorem getD_set_len {l : List (List Int)} {a x : Nat} {r : List Int} {m : Nat} (h : ∀ x, (l.getD x []).length ≤ m) (hr : r.length ≤ m + 1) : ((l.set a r).getD x []).length ≤ m + 1 := by
  by_cases e : a = x
  · subst e
    by_cases hl : a < l.length
    · simp [hl]; exact hr
    · simp [hl]
  · have := h x
    simp [List.getElem?_set_ne e] at this ⊢
    omega
theorem netOf_row (V : Nat) (ps : List Pr) (x : Nat) : ((netOf V ps).1.getD x []).length ≤ 2 * ps.length := by
  have : ∀ (ps : List Pr) (st : List (List Int) × List Arc) (m : Nat), (∀ x, (st.1.getD x []).length ≤ m) → ∀ x, ((lay ps st).1.getD x []).length ≤ m + 2 * ps.length := by
    intro ps
    induction ps with
    | nil => intro st m h x; simpa [lay] using h x
    | cons p ps ih =>
      intro st m h x
      have h1 : ∀ x, ((st.1.set p.a (st.1.getD p.a [] ++ [(st.2.length : Int)])).getD x []).length ≤ m + 1 := fun x => getD_set_len h (by have := h p.a; simp at this ⊢; omega)
      have h2 : ∀ x, ((addPair st p).1.getD x []).length ≤ m + 1 + 1 := fun x => getD_set_len h1 (by have := h1 p.b; simp at this ⊢; omega)
      have := ih (addPair st p) (m + 2) h2 x
      simp only [lay, List.foldl_cons, List.length_cons] at this ⊢
      omega
  have h := this ps (List.replicate V [], []) 0 (fun x => by simp [List.getElem?_replicate]; split <;> simp) x
  simpa [netOf] using h

/-! ### out -/
def markAll (l : List Bool) (ws : List Int) : List Bool := ws.foldl (fun l k => l.set k.toNat true) l
def outL (n : Nat) (ws : List Int) (i : Nat) : List Bool := (markAll (List.replicate n false) ws).set i true
theorem markAll_len (l : List Bool) (ws : List Int) : (markAll l ws).length = l.length := by
  unfold markAll
  induction ws generalizing l with
  | nil => rfl
  | cons k ws ih => simp [ih]
theorem markAll_take (l : List Bool) (ws : List Int) (k : Nat) (h : k < ws.length) : markAll l (ws.take (k + 1)) = (markAll l (ws.take k)).set ws[k].toNat true := by
  unfold markAll; rw [List.take_succ_eq_append_getElem h, List.foldl_append]; rfl
theorem outL_len (n : Nat) (ws : List Int) (i : Nat) : (outL n ws i).length = n := by simp [outL, markAll_len]

/-! ### the pairs -/
def isOut (out : List Bool) (v : Nat) : Bool := out.getD v true
def linkOf (out : List Bool) (v : Nat) (zs : List Int) : List Pr := (zs.filter fun z => z != (v : Int) && !isOut out z.toNat).map fun z => ⟨2 * v + 1, 2 * z.toNat, 1, 1⟩
def genOf (out : List Bool) (reach : Nat → List Int) (v : Nat) : List Pr := if isOut out v then [] else ⟨2 * v, 2 * v + 1, 1, 0⟩ :: linkOf out v (reach v)
def linkPairs (out : List Bool) (reach : Nat → List Int) (n : Nat) : List Pr := (List.range n).flatMap (genOf out reach)
def srcOf (out : List Bool) (n v : Nat) : List Pr := if isOut out v then [] else [⟨2 * n, 2 * v, 0, 0⟩]
def srcPairs (out : List Bool) (n k : Nat) : List Pr := (List.range k).flatMap (srcOf out n)
def finPairs (out : List Bool) (reach : Nat → List Int) (n : Nat) : List Pr := linkPairs out reach n ++ srcPairs out n n

theorem linkPairs_succ (out : List Bool) (reach : Nat → List Int) (k : Nat) : linkPairs out reach (k + 1) = linkPairs out reach k ++ genOf out reach k := by
  simp [linkPairs, List.range_succ]
theorem srcPairs_succ (out : List Bool) (n k : Nat) : srcPairs out n (k + 1) = srcPairs out n k ++ srcOf out n k := by
  simp [srcPairs, List.range_succ]
theorem linkOf_take (out : List Bool) (v : Nat) (zs : List Int) (j : Nat) (h : j < zs.length) :
    linkOf out v (zs.take (j + 1)) = linkOf out v (zs.take j) ++ if zs[j] != (v : Int) && !isOut out zs[j].toNat then [(⟨2 * v + 1, 2 * zs[j].toNat, 1, 1⟩ : Pr)] else [] := by
  unfold linkOf
  rw [List.take_succ_eq_append_getElem h, List.filter_append, List.map_append]
  congr 1
  by_cases hp : (zs[j] != (v : Int) && !isOut out zs[j].toNat) = true
  · rw [if_pos hp, List.filter_cons, if_pos hp]; rfl
  · rw [if_neg hp, List.filter_cons, if_neg hp]; rfl
theorem linkOf_le (out : List Bool) (v : Nat) (zs : List Int) : (linkOf out v zs).length ≤ zs.length := by
  unfold linkOf; rw [List.length_map]; exact List.length_filter_le _ _
theorem linkPairs_le (out : List Bool) (reach : Nat → List Int) (n : Nat) : (linkPairs out reach n).length ≤ n + ((List.range n).map fun v => (reach v).length).sum := by
  induction n with
  | zero => simp [linkPairs]
  | succ n ih =>
    rw [linkPairs_succ, List.length_append, List.range_succ, List.map_append, List.sum_append]
    have : (genOf out reach n).length ≤ 1 + (reach n).length := by
      unfold genOf
      split
      · simp
      · have := linkOf_le out n (reach n); simp; omega
    simp
    omega
theorem linkPairs_mono (out : List Bool) (reach : Nat → List Int) {k n : Nat} (h : k ≤ n) : (linkPairs out reach k).length ≤ (linkPairs out reach n).length := by
  induction n with
  | zero => have : k = 0 := by omega
            subst this; exact Nat.le_refl _
  | succ n ih =>
    by_cases e : k = n + 1
    · subst e; exact Nat.le_refl _
    · rw [linkPairs_succ, List.length_append]; have := ih (by omega); omega
theorem srcPairs_mono (out : List Bool) (m : Nat) {k n : Nat} (h : k ≤ n) : (srcPairs out m k).length ≤ (srcPairs out m n).length := by
  induction n with
  | zero => have : k = 0 := by omega
            subst this; exact Nat.le_refl _
  | succ n ih =>
    by_cases e : k = n + 1
    · subst e; exact Nat.le_refl _
    · rw [srcPairs_succ, List.length_append]; have := ih (by omega); omega
theorem srcPairs_le (out : List Bool) (n k : Nat) : (srcPairs out n k).length ≤ k := by
  induction k with
  | zero => simp [srcPairs]
  | succ k ih =>
    rw [srcPairs_succ, List.length_append]
    have : (srcOf out n k).length ≤ 1 := by unfold srcOf; split <;> simp
    omega
end Go.Proofs.Qxb6605292a
