/-
  What a search reads of the finder while it is under way.
-/
import Derived.Test.Qxb6605292aFinQ
import Derived.Test.Qxb6605292aBfs
namespace Go.Proofs.Qxb6605292a
open Go.RowKit

section
variable {w : World} {T : Nat → Nat} {s : FV} {fq : Value}
theorem FinQ.seenC (h : FinQ w T s fq) {x : Nat} (hx : x < s.V) : w.cell? ⟨s.bSeen, x, none⟩ = some (.int .u32 (s.seen.getD x 0)) ∧ w.frozen? ⟨s.bSeen, x, none⟩ = false := by
  have e : s.AQ fq 7 = some (s.bSeen, 70, s.seen.map (.int .u32)) := by rw [FV.AQ_ne _ _ (by omega)]; simp [FV.A]
  exact ⟨h.own.at e (by simp [h.len.seen, hx]), h.own.frozen e x⟩
theorem FinQ.viaC (h : FinQ w T s fq) {x : Nat} (hx : x < s.V) : w.cell? ⟨s.bVia, x, none⟩ = some (.int .i32 (s.via.getD x 0)) ∧ w.frozen? ⟨s.bVia, x, none⟩ = false := by
  have e : s.AQ fq 10 = some (s.bVia, 21, s.via.map (.int .i32)) := by rw [FV.AQ_ne _ _ (by omega)]; simp [FV.A]
  exact ⟨h.own.at e (by simp [h.len.via, hx]), h.own.frozen e x⟩
theorem FinQ.srcC (h : FinQ w T s fq) {u : Nat} {b : Int} (hb : s.source[u]? = some b) : w.cell? ⟨s.bSource, u, none⟩ = some (.int .i32 b) := by
  have e : s.AQ fq 4 = some (s.bSource, 21, s.source.map (.int .i32)) := by rw [FV.AQ_ne _ _ (by omega)]; simp [FV.A]
  exact h.own.at e (by rw [List.getElem?_map, hb]; rfl)
theorem FinQ.arcC (h : FinQ w T s fq) {g c a : Nat} (hv : s.vArcs = .slice (some ⟨g, 0, none⟩) s.arcs.length c) (ha : a < s.arcs.length) :
    w.cell? ⟨g, a * 4, none⟩ = some (.int .i32 (toAt s.arcs a)) ∧ w.cell? ⟨g, a * 4 + 1, none⟩ = some (.int .i8 (roomAt s.arcs a)) := by
  have e11 : s.R 11 = some (.slice (some ⟨g, 0, none⟩) s.arcs.length c, 67, 4, s.arcs.length, s.arcs.flatMap Arc.cells) := by rw [← hv]; simp [FV.R]
  have h0 := arcCells_get s.arcs a 0 ha (by omega)
  have h1 := arcCells_get s.arcs a 1 ha (by omega)
  rw [Nat.add_zero] at h0
  constructor
  · rw [h.own.rcell e11 (by omega), h0, toAt_get ha]; rfl
  · rw [h.own.rcell e11 (by omega), h1, roomAt_get ha]; rfl
theorem FinQ.nodeC (h : FinQ w T s fq) {x : Nat} (hx : x < s.V) : ∃ ao c, s.vNodes[x]? = some (.slice ao (s.row x).length c) ∧ w.cell? ⟨s.bNodes, x, none⟩ = some (.slice ao (s.row x).length c) := by
  have hl := h.len.vNodes
  have hv : s.vNodes[x]? = some (s.vNodes[x]'(by omega)) := by simp [hl, hx]
  obtain ⟨ao, c, e, _⟩ := ownsRow_slice (h.own.row _ _ _ _ _ _ (s.R_row hv)).1
  rw [e] at hv
  have e3 : s.AQ fq 3 = some (s.bNodes, 45, s.vNodes) := by rw [FV.AQ_ne _ _ (by omega)]; simp [FV.A]
  exact ⟨ao, c, hv, h.own.at e3 hv⟩
theorem FinQ.nodeJ (h : FinQ w T s fq) {x j c : Nat} {ao : Option Addr} (hv : s.vNodes[x]? = some (.slice ao (s.row x).length c)) (hj : j < (s.row x).length) :
    ∃ b, ao = some ⟨b, 0, none⟩ ∧ w.cell? ⟨b, j, none⟩ = some (.int .i32 ((s.row x).getD j 0)) := by
  obtain ⟨b, c', e, _, _⟩ := h.own.rform (s.R_row hv) (by omega)
  cases e
  refine ⟨b, rfl, ?_⟩
  rw [h.own.rcell (s.R_row hv) (by omega)]
  simp [hj]
theorem FinQ.queueV (h : FinQ w T s fq) : ∃ ao c, s.vQueue = .slice ao s.queue.length c := by
  obtain ⟨ao, c, e, _⟩ := ownsRow_slice (h.own.row 13 s.vQueue 21 1 s.queue.length (s.queue.map (.int .i32)) (by simp [FV.R])).1
  exact ⟨ao, c, e⟩
theorem FinAt.queueV (h : FinAt w T s) : ∃ ao c, s.vQueue = .slice ao s.queue.length c := by
  obtain ⟨ao, c, e, _⟩ := ownsRow_slice (h.own.row 13 s.vQueue 21 1 s.queue.length (s.queue.map (.int .i32)) (by simp [FV.R])).1
  exact ⟨ao, c, e⟩
theorem FinQ.queueJ (h : FinQ w T s fq) {j c : Nat} {ao : Option Addr} (hv : s.vQueue = .slice ao s.queue.length c) (hj : j < s.queue.length) : ∃ b, ao = some ⟨b, 0, none⟩ ∧ w.cell? ⟨b, j, none⟩ = some (.int .i32 (s.queue.getD j 0)) := by
  have e13 : s.R 13 = some (.slice ao s.queue.length c, 21, 1, s.queue.length, s.queue.map (.int .i32)) := by rw [← hv]; simp [FV.R]
  obtain ⟨b, c', e, _, _⟩ := h.own.rform e13 (by omega)
  cases e
  refine ⟨b, rfl, ?_⟩
  rw [h.own.rcell e13 (by omega)]
  simp [hj]
theorem FinQ.row13 (h : FinQ w T s fq) : w.ownsRow 0 21 1 s.vQueue s.queue.length (s.queue.map (.int .i32)) := (h.own.row 13 s.vQueue 21 1 s.queue.length (s.queue.map (.int .i32)) (by simp [FV.R])).1
end
end Go.Proofs.Qxb6605292a
