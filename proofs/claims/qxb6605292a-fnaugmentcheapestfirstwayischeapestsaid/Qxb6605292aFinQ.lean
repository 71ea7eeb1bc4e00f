/-
  The finder while a search is under way: the field f.queue still holds what it held (fq), the queue itself has gone on.
-/
import Derived.Test.Qxb6605292aShim
namespace Go.Proofs.Qxb6605292a
open Go.RowKit

def FV.AQ (s : FV) (fq : Value) : Lay := s.A.upd 1 (s.F, 73, s.fields.set 16 fq)
structure FinQ (w : World) (T : Nat → Nat) (s : FV) (fq : Value) : Prop where
  own : Own w T (s.AQ fq) s.R
  len : s.Len
theorem FV.AQ_ne (s : FV) (fq : Value) {t : Nat} (h : t ≠ 1) : s.AQ fq t = s.A t := Lay.upd_ne _ _ h
theorem FV.AQ_one (s : FV) (fq : Value) : s.AQ fq 1 = some (s.F, 73, s.fields.set 16 fq) := Lay.upd_same _ _ _
section
variable {w w' : World} {T : Nat → Nat} {s : FV} {fq : Value}
theorem FinQ.later (h : FinQ w T s fq) (hb : Below w.heap.size w w') : FinQ w' T s fq := ⟨h.own.later hb, h.len⟩
theorem FinQ.f (h : FinQ w T s fq) {o : Nat} {v : Value} (ho : s.fields[o]? = some v) (hne : o ≠ 16) : w.cell? ⟨s.F, o, none⟩ = some v :=
  h.own.at (t := 1) (e := 73) (l := s.fields.set 16 fq) (s.AQ_one fq) (by rw [List.getElem?_set_ne (Ne.symm hne)]; exact ho)
theorem FinQ.ff (h : FinQ w T s fq) (o : Nat) : w.frozen? ⟨s.F, o, none⟩ = false := h.own.frozen (t := 1) (e := 73) (l := s.fields.set 16 fq) (s.AQ_one fq) o
/-- queue[:0]. -/
theorem FinAt.openQ {ao : Option Addr} {cap : Nat} (h : FinAt w T s) (hv : s.vQueue = .slice ao s.queue.length cap) : FinQ w T { s with vQueue := .slice ao 0 cap, queue := [] } s.vQueue := by
  have p1 := h.own.cut (t := 13) (n := s.queue.length) (ao := ao) (cap := cap) (e := 21) (z := 1) (xs := s.queue.map (.int .i32)) (by simp [FV.R, hv])
  refine ⟨p1.congr (fun t => ?_) (fun t => ?_), ⟨h.len.out, h.len.nodes, h.len.vNodes, h.len.source, h.len.seen, h.len.queued, h.len.dist, h.len.via⟩⟩
  · by_cases h3 : t = 1
    · subst h3; rw [FV.AQ_one]; simp [FV.A, FV.fields, FV.V]
    · rw [FV.AQ_ne _ _ h3]; simp only [FV.A, if_neg h3]; rfl
  · by_cases h3 : t = 13
    · subst h3; rw [Gro.upd_same]; simp [FV.R]
    · rw [Gro.upd_ne _ _ h3]; simp only [FV.R, if_neg h3]; rfl
/-- f.queue = queue. -/
theorem FinQ.close (h : FinQ w T s fq) : FinAt (w.setCell ⟨s.F, 16, none⟩ s.vQueue) T s := by
  have p := h.own.set (t := 1) (s.AQ_one fq) (by simp [FV.R]) 16 s.vQueue
  refine ⟨p.congr (fun t => ?_) (fun _ => rfl), h.len⟩
  by_cases h3 : t = 1
  · subst h3; rw [Lay.upd_same]; simp [FV.A, FV.fields]
  · rw [Lay.upd_ne _ _ h3, FV.AQ_ne _ _ h3]
theorem FV.AQ_R (s : FV) (fq : Value) {t : Nat} {x : Nat × TypeId × List Value} (h : s.AQ fq t = some x) : s.R t = none := by
  by_cases h3 : t = 1
  · subst h3; simp [FV.R]
  · rw [FV.AQ_ne _ _ h3] at h; exact s.AR h
theorem FinQ.setSeen (h : FinQ w T s fq) (i : Nat) (x : Int) : FinQ (w.setCell ⟨s.bSeen, i, none⟩ (.int .u32 x)) T (s.setSeen i x) fq := by
  have e7 : s.AQ fq 7 = some (s.bSeen, 70, s.seen.map (.int .u32)) := by rw [FV.AQ_ne _ _ (by omega)]; simp [FV.A]
  refine ⟨(h.own.set e7 (s.AQ_R fq e7) i (.int .u32 x)).congr (fun t => ?_) (fun _ => rfl), ⟨h.len.out, h.len.nodes, h.len.vNodes, h.len.source, by simp only [FV.setSeen, List.length_set]; exact h.len.seen, h.len.queued, h.len.dist, h.len.via⟩⟩
  by_cases e : t = 7
  · subst e; rw [Lay.upd_same, FV.AQ_ne _ _ (by omega)]; simp [FV.A, FV.setSeen, List.map_set]
  · rw [Lay.upd_ne _ _ e]
    by_cases e1 : t = 1
    · subst e1; rw [FV.AQ_one, FV.AQ_one]; rfl
    · rw [FV.AQ_ne _ _ e1, FV.AQ_ne _ _ e1]; simp only [FV.A, if_neg e]; rfl
theorem FinQ.setVia (h : FinQ w T s fq) (i : Nat) (x : Int) : FinQ (w.setCell ⟨s.bVia, i, none⟩ (.int .i32 x)) T (s.setVia i x) fq := by
  have e10 : s.AQ fq 10 = some (s.bVia, 21, s.via.map (.int .i32)) := by rw [FV.AQ_ne _ _ (by omega)]; simp [FV.A]
  refine ⟨(h.own.set e10 (s.AQ_R fq e10) i (.int .i32 x)).congr (fun t => ?_) (fun _ => rfl), ⟨h.len.out, h.len.nodes, h.len.vNodes, h.len.source, h.len.seen, h.len.queued, h.len.dist, by simp only [FV.setVia, List.length_set]; exact h.len.via⟩⟩
  by_cases e : t = 10
  · subst e; rw [Lay.upd_same, FV.AQ_ne _ _ (by omega)]; simp [FV.A, FV.setVia, List.map_set]
  · rw [Lay.upd_ne _ _ e]
    by_cases e1 : t = 1
    · subst e1; rw [FV.AQ_one, FV.AQ_one]; rfl
    · rw [FV.AQ_ne _ _ e1, FV.AQ_ne _ _ e1]; simp only [FV.A, if_neg e]; rfl
/-- queue = append(queue, x). -/
def FV.pushQ (s : FV) (x : Int) (v : Value) : FV := { s with vQueue := v, queue := s.queue ++ [x] }
theorem FinQ.pushQ {w0 w1 : World} {gg cap H : Nat} {x : Int} (h : FinQ w T s fq) (hb : Below w.heap.size w w0)
    (hown : w1.ownsRow 0 21 1 (.slice (some ⟨gg, 0, none⟩) (s.queue.length + 1) cap) (s.queue.length + 1) (s.queue.map (.int .i32) ++ [.int .i32 x]))
    (hgrow : w0.grownBy w1 s.vQueue.ownBlock) (hat : s.vQueue.ownBlock = some gg ∨ gg = H) (hH : w0.heap.size = H) (hlt : gg < w1.heap.size) :
    FinQ w1 (retag T gg 13) (s.pushQ x (.slice (some ⟨gg, 0, none⟩) (s.queue.length + 1) cap)) fq ∧ Step augT w T w1 (retag T gg 13) := by
  have e13 : s.R 13 = some (s.vQueue, 21, 1, s.queue.length, s.queue.map (.int .i32)) := by simp [FV.R]
  have p1 := h.own.push (t := 13) (v := s.vQueue) e13 (by rw [FV.AQ_ne _ _ (by omega)]; simp [FV.A]) hb hown hgrow hat hH hlt
  have q0 := (Step.refl augT w T).grown hb hgrow hat hH (h.own.row _ _ _ _ _ _ e13).2 (.inr (.inr (.inr (.inr (.inr rfl)))))
  refine ⟨⟨p1.congr (fun t => ?_) (fun t => ?_), ⟨h.len.out, h.len.nodes, h.len.vNodes, h.len.source, h.len.seen, h.len.queued, h.len.dist, h.len.via⟩⟩, q0⟩
  · by_cases e1 : t = 1
    · subst e1; rw [FV.AQ_one, FV.AQ_one]; simp [FV.pushQ, FV.fields, FV.V]
    · rw [FV.AQ_ne _ _ e1, FV.AQ_ne _ _ e1]; simp only [FV.A, if_neg e1]; rfl
  · by_cases h3 : t = 13
    · subst h3; rw [Gro.upd_same]; simp [FV.R, FV.pushQ]
    · rw [Gro.upd_ne _ _ h3]; simp only [FV.R, if_neg h3]; rfl
end
end Go.Proofs.Qxb6605292a
