/-
  The search, once more: who leads into a place that is worked off was reached from no later place.
-/
import Derived.Test.Qxb6605292aAug0
namespace Go.Proofs.Qxb6605292a

def DoneP (n : Nat) (l : List Arc) (q par : List Nat) (k : Nat) : Prop :=
  ∀ p v a y : Nat, p < k → q[p]? = some v → a < l.length → toAt l a = (v : Int) → roomAt l a ≠ 0 → toAt l (twin a) = (y : Int) → y = 2 * n ∨ ∃ i r : Nat, q[i]? = some y ∧ par[i]? = some r ∧ r ≤ p
theorem DoneP.done {n : Nat} {l : List Arc} {q par : List Nat} {k : Nat} (h : DoneP n l q par k) : Done n l q k := by
  intro p v a y hp hq ha ht hr hy
  rcases h p v a y hp hq ha ht hr hy with h | ⟨i, r, h1, _⟩
  · exact .inr h
  · exact .inl (List.mem_of_getElem? h1)
theorem DoneP.grow {n : Nat} {l : List Arc} {q par : List Nat} {k : Nat} (h : DoneP n l q par k) (hk : k ≤ q.length) (y r : Nat) : DoneP n l (q ++ [y]) (par ++ [r]) k := by
  intro p v a z hp hq ha ht hr hz
  rw [List.getElem?_append_left (by omega)] at hq
  rcases h p v a z hp hq ha ht hr hz with h | ⟨i, r', h1, h2, h3⟩
  · exact .inl h
  · exact .inr ⟨i, r', by rw [List.getElem?_append_left (List.getElem?_eq_some_iff.1 h1).1]; exact h1, by rw [List.getElem?_append_left (List.getElem?_eq_some_iff.1 h2).1]; exact h2, h3⟩
theorem DoneP.succ {n : Nat} {l : List Arc} {nodes : List (List Int)} {source : List Int} {q par : List Nat} {k v : Nat} (hn : Nw n l nodes source) (h : DoneP n l q par k) (hv : q[k]? = some v) (hj : DoneJ n l q (nodes.getD v []) (nodes.getD v []).length)
    (hp : ∀ i r : Nat, par[i]? = some r → r ≤ k) (hl : par.length = q.length) : DoneP n l q par (k + 1) := by
  intro p u a y hpk hq ha ht hr hy
  by_cases e : p = k
  · subst e
    rw [hv] at hq
    injection hq with hq
    subst hq
    have hm := hn.all (twin a) v (hn.twin_lt ha) (by rw [twin_twin]; exact ht)
    obtain ⟨i, hi, he⟩ := List.getElem_of_mem hm
    rcases hj i (twin a) y hi (by rw [List.getElem?_eq_getElem hi, he]) (by rw [twin_twin]; exact hr) hy with h1 | h1
    · obtain ⟨i, hi⟩ := List.mem_iff_getElem?.1 h1
      have hil := (List.getElem?_eq_some_iff.1 hi).1
      have e2 : par[i]? = some par[i] := List.getElem?_eq_getElem (by omega)
      exact .inr ⟨i, _, hi, e2, hp i _ e2⟩
    · exact .inl h1
  · exact h p u a y (by omega) hq ha ht hr hy
/-- The source has been reached: by node f, which leads to place p; the places before p are worked off. -/
def FoundP (n sink : Nat) (W : Int) (l : List Arc) (source sn vi : List Int) (q par : List Nat) : Prop :=
  ∃ (sn0 vi0 : List Int) (f p v a b : Nat), DoneP n l q par p ∧ BI n sink W l source sn0 vi0 q par ∧ f < 2 * n ∧ f ∉ q ∧ sn = (sn0.set f W).set (2 * n) W ∧ vi = (vi0.set f (a : Int)).set (2 * n) (b : Int) ∧
    q[p]? = some v ∧ a < l.length ∧ toAt l a = (v : Int) ∧ toAt l (twin a) = (f : Int) ∧ roomAt l a ≠ 0 ∧ b < l.length ∧ toAt l b = (f : Int) ∧ toAt l (twin b) = ((2 * n : Nat) : Int) ∧ 0 < roomAt l b ∧ (∀ i r : Nat, par[i]? = some r → r ≤ p) ∧ ∃ u : Nat, f = 2 * u ∧ source[u]? = some (b : Int)
theorem FoundP.found {n sink : Nat} {W : Int} {l : List Arc} {source sn vi : List Int} {q par : List Nat} (h : FoundP n sink W l source sn vi q par) : Found n sink W l source sn vi q par := by
  obtain ⟨sn0, vi0, f, p, v, a, b, _, h⟩ := h
  exact ⟨sn0, vi0, f, p, v, a, b, h⟩
def L1P (n sink : Nat) (W : Int) (l : List Arc) (source sn vi : List Int) (q par : List Nat) (hh : Nat) : Prop :=
  (BI n sink W l source sn vi q par ∧ hh ≤ q.length ∧ (∀ i r : Nat, par[i]? = some r → r ≤ hh) ∧ DoneP n l q par hh) ∨ (FoundP n sink W l source sn vi q par ∧ hh ≤ 2 * n)
/-- What a search does to the finder. -/
def AugPF (s : FV) (sink : Nat) (s' : FV) (ok : Bool) : Prop :=
  ∃ (sn vi : List Int) (vq : Value) (q par : List Nat), SnB (s.walk + 1) sn ∧
    ((ok = false ∧ s' = s.search (s.walk + 1) sn vi vq q ∧ BI s.n sink (s.walk + 1) s.arcs s.source sn vi q par ∧ Done s.n s.arcs q q.length) ∨
     (ok = true ∧ FoundP s.n sink (s.walk + 1) s.arcs s.source sn vi q par ∧ ∃ vt ns ar, s' = (s.search (s.walk + 1) sn vi vq q).pushedAll ar vt ∧ Way s.arcs vi (2 * s.n) sink ns ar))
theorem AugPF.plain {s : FV} {sink : Nat} {s' : FV} {ok : Bool} (h : AugPF s sink s' ok) : AugP s sink s' ok := by
  obtain ⟨sn, vi, vq, q, par, h1, h2⟩ := h
  refine ⟨sn, vi, vq, q, par, h1, ?_⟩
  rcases h2 with h2 | ⟨h2, h3, h4⟩
  · exact .inl h2
  · exact .inr ⟨h2, h3.found, h4⟩
def AugRF (w : World) (T : Nat → Nat) (s : FV) (sink : Nat) (e : Ending) (w' : World) : Prop :=
  ∃ ok T' s', e = .returned (.bool ok) ∧ FinAt w' T' s' ∧ Step augT w T w' T' ∧ AugPF s sink s' ok
end Go.Proofs.Qxb6605292a
