/-
  What augment (f50) says, and the small laws that its walk asks for.
-/
import Derived.Test.Qxb6605292aFinR
import Derived.Test.Qxb6605292aWay
namespace Go.Proofs.Qxb6605292a
open Go.RowKit

def FV.search (s : FV) (W : Int) (sn vi : List Int) (vq : Value) (q : List Nat) : FV := { s with walk := W, seen := sn, via := vi, vQueue := vq, queue := q.map Int.ofNat }
/-- No mark is later than W. -/
def SnB (W : Int) (sn : List Int) : Prop := ∀ x : Nat, ∀ y, sn[x]? = some y → y ≤ W
theorem SnB.set {W : Int} {sn : List Int} (h : SnB W sn) (i : Nat) : SnB W (sn.set i W) := by
  intro x y hx
  by_cases e : i = x
  · subst e
    by_cases hl : i < sn.length
    · rw [List.getElem?_set_self hl] at hx
      injection hx with hx
      omega
    · rw [List.set_eq_of_length_le (by omega)] at hx
      exact h _ y hx
  · rw [List.getElem?_set_ne e] at hx
    exact h x y hx
theorem SnB.mono {W W' : Int} {sn : List Int} (h : SnB W sn) (hw : W ≤ W') : SnB W' sn := fun x y hx => by have := h x y hx; omega
/-- The search's state in memory. -/
def SQ (w : World) (T : Nat → Nat) (s : FV) (W : Int) (sn vi : List Int) (vq : Value) (q : List Nat) (wr : World) : Prop := ∃ T', FinQ wr T' (s.search W sn vi vq q) s.vQueue ∧ Step augT w T wr T' ∧ SnB W sn

def FV.pushedAll (s : FV) (ar : List Nat) (v : Value) : FV := { s with arcs := pushAll s.arcs ar, vTouched := v, touched := s.touched ++ ar.flatMap fun a : Nat => [(a : Int), (twin a : Int)] }
theorem FV.pushedAll_snoc (s : FV) (ar : List Nat) (v v' : Value) (a : Nat) : (s.pushedAll ar v).pushed a v' = s.pushedAll (ar ++ [a]) v' := by
  simp [FV.pushedAll, FV.pushed, pushAll_snoc]
theorem FV.pushedAll_nil (s : FV) : s.pushedAll [] s.vTouched = s := by simp [FV.pushedAll, pushAll]
/-- What a search does to the finder. -/
def AugP (s : FV) (sink : Nat) (s' : FV) (ok : Bool) : Prop :=
  ∃ (sn vi : List Int) (vq : Value) (q par : List Nat), SnB (s.walk + 1) sn ∧
    ((ok = false ∧ s' = s.search (s.walk + 1) sn vi vq q ∧ BI s.n sink (s.walk + 1) s.arcs s.source sn vi q par ∧ Done s.n s.arcs q q.length) ∨
     (ok = true ∧ Found s.n sink (s.walk + 1) s.arcs s.source sn vi q par ∧ ∃ vt ns ar, s' = (s.search (s.walk + 1) sn vi vq q).pushedAll ar vt ∧ Way s.arcs vi (2 * s.n) sink ns ar))
def AugR (w : World) (T : Nat → Nat) (s : FV) (sink : Nat) (e : Ending) (w' : World) : Prop :=
  ∃ ok T' s', e = .returned (.bool ok) ∧ FinAt w' T' s' ∧ Step augT w T w' T' ∧ AugP s sink s' ok
section
variable {w : World} {T : Nat → Nat} {s : FV} {fq : Value}
theorem FinQ.f16 (h : FinQ w T s fq) : w.cell? ⟨s.F, 16, none⟩ = some fq :=
  h.own.at (t := 1) (e := 73) (l := s.fields.set 16 fq) (s.AQ_one fq) (by simp [FV.fields])
theorem FinQ.tags (h : FinQ w T s fq) : T s.F = 1 ∧ T s.bSeen = 7 ∧ T s.bVia = 10 :=
  ⟨(h.own.arr 1 s.F 73 (s.fields.set 16 fq) (s.AQ_one fq)).1, (h.own.arr 7 s.bSeen 70 (s.seen.map (.int .u32)) (by rw [FV.AQ_ne _ _ (by omega)]; simp [FV.A])).1,
    (h.own.arr 10 s.bVia 21 (s.via.map (.int .i32)) (by rw [FV.AQ_ne _ _ (by omega)]; simp [FV.A])).1⟩
theorem FinAt.viaC (h : FinAt w T s) {x : Nat} {a : Int} (hx : s.via[x]? = some a) : w.cell? ⟨s.bVia, x, none⟩ = some (.int .i32 a) :=
  h.own.at (t := 10) (e := 21) (l := s.via.map (.int .i32)) (by simp [FV.A]) (by rw [List.getElem?_map, hx]; rfl)
theorem FinAt.seenC (h : FinAt w T s) {x : Nat} {a : Int} (hx : s.seen[x]? = some a) : w.cell? ⟨s.bSeen, x, none⟩ = some (.int .u32 a) :=
  h.own.at (t := 7) (e := 70) (l := s.seen.map (.int .u32)) (by simp [FV.A]) (by rw [List.getElem?_map, hx]; rfl)
theorem FinAt.arcTo (h : FinAt w T s) {g c a m : Nat} (hv : s.vArcs = .slice (some ⟨g, 0, none⟩) m c) (hm : s.arcs.length = m) (ha : a < s.arcs.length) :
    w.cell? ⟨g, a * 4, none⟩ = some (.int .i32 (toAt s.arcs a)) := by
  subst hm
  have e11 : s.R 11 = some (.slice (some ⟨g, 0, none⟩) s.arcs.length c, 67, 4, s.arcs.length, s.arcs.flatMap Arc.cells) := by rw [← hv]; simp [FV.R]
  have h0 := arcCells_get s.arcs a 0 ha (by omega)
  rw [Nat.add_zero] at h0
  rw [h.own.rcell e11 (by omega), h0, toAt_get ha]; rfl
end
theorem touch_len (ar : List Nat) : (ar.flatMap fun a : Nat => [(a : Int), (twin a : Int)]).length = 2 * ar.length := by
  induction ar with
  | nil => rfl
  | cons a ar ih => simp only [List.flatMap_cons, List.length_append, ih, List.length_cons, List.length_nil]; omega
/-- The place of x. -/
theorem idxOf_at {ns : List Nat} (h : ns.Nodup) {k x : Nat} (hk : ns[k]? = some x) : ns.idxOf x = k := by
  have hl := (List.getElem?_eq_some_iff.1 hk).1
  have he := (List.getElem?_eq_some_iff.1 hk).2
  have hm : x ∈ ns := List.mem_of_getElem? hk
  have h1 : ns.idxOf x < ns.length := List.idxOf_lt_length_iff.2 hm
  exact nodup_at h (x := x) (by rw [List.getElem?_eq_getElem h1, List.getElem_idxOf h1]) hk
end Go.Proofs.Qxb6605292a
