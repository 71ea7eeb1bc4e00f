/-
  What augment's stores do to the finder: an arc's room, touched, the queue.
-/
import Derived.Test.Qxb6605292aOps
namespace Go.Proofs.Qxb6605292a
open Go.RowKit

def setRm (l : List Arc) (a : Nat) (r : Int) : List Arc := l.modify a fun x => { x with room := r }
theorem setRm_len (l : List Arc) (a : Nat) (r : Int) : (setRm l a r).length = l.length := by simp [setRm]
theorem arcCells_set (l : List Arc) (a : Nat) (r : Int) (h : a < l.length) : (l.flatMap Arc.cells).set (a * 4 + 1) (.int .i8 r) = (setRm l a r).flatMap Arc.cells := by
  induction l generalizing a with
  | nil => simp at h
  | cons x l ih =>
    cases a with
    | zero =>
      rw [List.flatMap_cons, List.set_append_left _ _ (by simp [Arc.cells])]
      simp [setRm, Arc.cells]
    | succ a =>
      have hl : x.cells.length = 4 := rfl
      rw [List.flatMap_cons, List.set_append_right _ _ (by rw [hl]; omega), hl, show (a + 1) * 4 + 1 - 4 = a * 4 + 1 by omega, ih a (by simpa using h)]
      simp [setRm]
def FV.setRoom (s : FV) (a : Nat) (r : Int) : FV := { s with arcs := setRm s.arcs a r }
theorem FinAt.setRoom {w : World} {T : Nat → Nat} {s : FV} {g c a : Nat} (h : FinAt w T s) (hv : s.vArcs = .slice (some ⟨g, 0, none⟩) s.arcs.length c) (ha : a < s.arcs.length) (r : Int) :
    FinAt (w.setCell ⟨g, a * 4 + 1, none⟩ (.int .i8 r)) T (s.setRoom a r) := by
  have e11 : s.R 11 = some (.slice (some ⟨g, 0, none⟩) s.arcs.length c, 67, 4, s.arcs.length, s.arcs.flatMap Arc.cells) := by rw [← hv]; simp [FV.R]
  have p := h.own.rset e11 (by simp [FV.A]) (a * 4 + 1) (.int .i8 r)
  refine ⟨p.congr (fun t => rfl) (fun t => ?_), ⟨h.len.out, h.len.nodes, h.len.vNodes, h.len.source, h.len.seen, h.len.queued, h.len.dist, h.len.via⟩⟩
  by_cases h3 : t = 11
  · subst h3
    rw [Gro.upd_same, arcCells_set _ _ _ ha]
    simp [FV.R, FV.setRoom, setRm_len, hv]
  · rw [Gro.upd_ne _ _ h3]; simp only [FV.R, if_neg h3]; rfl
/-- Two more are touched. -/
def FV.pushTouched (s : FV) (xs : List Int) (v : Value) : FV := { s with vTouched := v, touched := s.touched ++ xs }
theorem FinAt.pushTouched {w w0 w1 : World} {T : Nat → Nat} {s : FV} {gg cap H m : Nat} {xs : List Int} (h : FinAt w T s) (hm : xs.length = m) (hb : Below w.heap.size w w0)
    (hown : w1.ownsRow 0 21 1 (.slice (some ⟨gg, 0, none⟩) (s.touched.length + m) cap) (s.touched.length + m) (s.touched.map (.int .i32) ++ xs.map (.int .i32)))
    (hgrow : w0.grownBy w1 s.vTouched.ownBlock) (hat : s.vTouched.ownBlock = some gg ∨ gg = H) (hH : w0.heap.size = H) (hlt : gg < w1.heap.size) :
    FinAt (w1.setCell ⟨s.F, 5, none⟩ (.slice (some ⟨gg, 0, none⟩) (s.touched.length + m) cap)) (retag T gg 12) (s.pushTouched xs (.slice (some ⟨gg, 0, none⟩) (s.touched.length + m) cap)) ∧
    Step (fun t => t = 1 ∨ t = 12) w T (w1.setCell ⟨s.F, 5, none⟩ (.slice (some ⟨gg, 0, none⟩) (s.touched.length + m) cap)) (retag T gg 12) := by
  subst hm
  have p1 := h.own.push (t := 12) (v := s.vTouched) (by simp [FV.R]) (by simp [FV.A]) hb hown hgrow hat hH hlt
  have e12 : s.R 12 = some (s.vTouched, 21, 1, s.touched.length, s.touched.map (.int .i32)) := by simp [FV.R]
  have q0 := (Step.refl (fun t => t = 1 ∨ t = 12) w T).grown hb hgrow hat hH (h.own.row _ _ _ _ _ _ e12).2 (.inr rfl)
  have q1 := q0.set (b := s.F) (o := 5) (by rw [(p1.arr 1 s.F 73 s.fields (by simp [FV.A])).1]; exact .inl rfl) (.slice (some ⟨gg, 0, none⟩) (s.touched.length + xs.length) cap)
  refine ⟨?_, q1⟩
  have p2 := p1.set (t := 1) (b := s.F) (e := 73) (l := s.fields) (by simp [FV.A]) (by rw [Gro.upd_ne _ _ (by omega)]; simp [FV.R]) 5 (.slice (some ⟨gg, 0, none⟩) (s.touched.length + xs.length) cap)
  refine ⟨p2.congr (fun t => ?_) (fun t => ?_), ?_⟩
  · by_cases h3 : t = 1
    · subst h3; rw [Lay.upd_same]; simp [FV.A, FV.pushTouched, FV.fields, FV.V]
    · rw [Lay.upd_ne _ _ h3]; simp only [FV.A, if_neg h3]; rfl
  · by_cases h3 : t = 12
    · subst h3; rw [Gro.upd_same]; simp [FV.R, FV.pushTouched]
    · rw [Gro.upd_ne _ _ h3]; simp only [FV.R, if_neg h3]; rfl
  · exact ⟨h.len.out, h.len.nodes, h.len.vNodes, h.len.source, h.len.seen, h.len.queued, h.len.dist, h.len.via⟩
end Go.Proofs.Qxb6605292a
