/-
  The finder while augmentCheapest is under way: labels and queue marks; what the search reads; what it says.
-/
import Derived.Test.Qxb6605292aSpfaE
import Derived.Test.Qxb6605292aAug0
namespace Go.Proofs.Qxb6605292a
open Go.RowKit

/-- The tags that augmentCheapest touches. -/
def augCT (t : Nat) : Prop := t = 8 ∨ t = 9 ∨ augT t
theorem augCT_of {t : Nat} (h : augT t) : augCT t := .inr (.inr h)
theorem augCT0 : ¬ augCT 0 := by
  rintro (h | h | h)
  · omega
  · omega
  · rcases h with h | h | h | h | h | h <;> omega
def FV.searchC (s : FV) (W : Int) (sn vi ds qd : List Int) (vq : Value) (q : List Nat) : FV := { s with walk := W, seen := sn, via := vi, dist := ds, queued := qd, vQueue := vq, queue := q.map Int.ofNat }
/-- The search's state in memory. -/
def SQC (w : World) (T : Nat → Nat) (s : FV) (W : Int) (sn vi ds qd : List Int) (vq : Value) (q : List Nat) (wr : World) : Prop := ∃ T', FinQ wr T' (s.searchC W sn vi ds qd vq q) s.vQueue ∧ Step augCT w T wr T' ∧ SnB W sn ∧ SnB W qd
theorem SnB.set0 {W : Int} {sn : List Int} (h : SnB W sn) (hW : 0 ≤ W) (i : Nat) : SnB W (sn.set i 0) := by
  intro x y hx
  by_cases e : i = x
  · subst e
    by_cases hl : i < sn.length
    · rw [List.getElem?_set_self hl] at hx
      injection hx with hx
      omega
    · rw [List.set_eq_of_length_le (by omega)] at hx
      exact h _ y hx
  · rw [List.getElem?_set_ne e] at hx
    exact h x y hx
/-- The blocked row: nil, or a block of its own that the finder does not own. -/
def BlkS (w : World) (T : Nat → Nat) (v : Value) (n : Nat) : Option (List Bool) → Prop
  | none => v = .slice none 0 0
  | some bs => n ≤ bs.length ∧ bs.length ≤ 1048576 ∧ ∃ b cap, v = .slice (some ⟨b, 0, none⟩) bs.length cap ∧ Rw w b 4 (bs.map .bool) ∧ T b = 0
theorem BlkS.step {M : Nat → Prop} {w w' : World} {T T' : Nat → Nat} {v : Value} {n : Nat} {bl : Option (List Bool)} (h : BlkS w T v n bl) (st : Step M w T w' T') (hm : ¬ M 0) : BlkS w' T' v n bl := by
  cases bl with
  | none => exact h
  | some bs =>
    obtain ⟨h1, h2, b, cap, h3, h4, h5⟩ := h
    exact ⟨h1, h2, b, cap, h3, h4.step st (by rw [h5]; exact hm), by rw [st.tags b h4.lt]; exact h5⟩
theorem BlkS.blkV {w : World} {T : Nat → Nat} {v : Value} {n : Nat} {bl : Option (List Bool)} (h : BlkS w T v n bl) : BlkV w v n bl := by
  cases bl with
  | none => exact h
  | some bs =>
    obtain ⟨h1, h2, b, cap, h3, h4, h5⟩ := h
    refine ⟨h1, by unfold maxLen; omega, b, 0, cap, h3, fun i hi => ?_⟩
    rw [Nat.zero_add, h4.cell]
    simp [hi]
section
variable {w w' : World} {T : Nat → Nat} {s : FV} {fq : Value}
theorem FinQ.setDist (h : FinQ w T s fq) (i : Nat) (x : Int) : FinQ (w.setCell ⟨s.bDist, i, none⟩ (.int .i32 x)) T (s.setDist i x) fq := by
  have e9 : s.AQ fq 9 = some (s.bDist, 21, s.dist.map (.int .i32)) := by rw [FV.AQ_ne _ _ (by omega)]; simp [FV.A]
  refine ⟨(h.own.set e9 (s.AQ_R fq e9) i (.int .i32 x)).congr (fun t => ?_) (fun _ => rfl), ⟨h.len.out, h.len.nodes, h.len.vNodes, h.len.source, h.len.seen, h.len.queued, by simp only [FV.setDist, List.length_set]; exact h.len.dist, h.len.via⟩⟩
  by_cases e : t = 9
  · subst e; rw [Lay.upd_same, FV.AQ_ne _ _ (by omega)]; simp [FV.A, FV.setDist, List.map_set]
  · rw [Lay.upd_ne _ _ e]
    by_cases e1 : t = 1
    · subst e1; rw [FV.AQ_one, FV.AQ_one]; rfl
    · rw [FV.AQ_ne _ _ e1, FV.AQ_ne _ _ e1]; simp only [FV.A, if_neg e]; rfl
theorem FinQ.setQueued (h : FinQ w T s fq) (i : Nat) (x : Int) : FinQ (w.setCell ⟨s.bQueued, i, none⟩ (.int .u32 x)) T (s.setQueued i x) fq := by
  have e8 : s.AQ fq 8 = some (s.bQueued, 70, s.queued.map (.int .u32)) := by rw [FV.AQ_ne _ _ (by omega)]; simp [FV.A]
  refine ⟨(h.own.set e8 (s.AQ_R fq e8) i (.int .u32 x)).congr (fun t => ?_) (fun _ => rfl), ⟨h.len.out, h.len.nodes, h.len.vNodes, h.len.source, h.len.seen, by simp only [FV.setQueued, List.length_set]; exact h.len.queued, h.len.dist, h.len.via⟩⟩
  by_cases e : t = 8
  · subst e; rw [Lay.upd_same, FV.AQ_ne _ _ (by omega)]; simp [FV.A, FV.setQueued, List.map_set]
  · rw [Lay.upd_ne _ _ e]
    by_cases e1 : t = 1
    · subst e1; rw [FV.AQ_one, FV.AQ_one]; rfl
    · rw [FV.AQ_ne _ _ e1, FV.AQ_ne _ _ e1]; simp only [FV.A, if_neg e]; rfl
theorem FinQ.distC (h : FinQ w T s fq) {x : Nat} (hx : x < s.V) : w.cell? ⟨s.bDist, x, none⟩ = some (.int .i32 (lbA s.dist x)) ∧ w.frozen? ⟨s.bDist, x, none⟩ = false := by
  have e : s.AQ fq 9 = some (s.bDist, 21, s.dist.map (.int .i32)) := by rw [FV.AQ_ne _ _ (by omega)]; simp [FV.A]
  exact ⟨h.own.at e (by simp [h.len.dist, hx, lbA]), h.own.frozen e x⟩
theorem FinQ.queuedC (h : FinQ w T s fq) {x : Nat} (hx : x < s.V) : w.cell? ⟨s.bQueued, x, none⟩ = some (.int .u32 (s.queued.getD x 0)) ∧ w.frozen? ⟨s.bQueued, x, none⟩ = false := by
  have e : s.AQ fq 8 = some (s.bQueued, 70, s.queued.map (.int .u32)) := by rw [FV.AQ_ne _ _ (by omega)]; simp [FV.A]
  exact ⟨h.own.at e (by simp [h.len.queued, hx]), h.own.frozen e x⟩
theorem FinQ.costC (h : FinQ w T s fq) {g c a : Nat} (hv : s.vArcs = .slice (some ⟨g, 0, none⟩) s.arcs.length c) (ha : a < s.arcs.length) : w.cell? ⟨g, a * 4 + 3, none⟩ = some (.int .i8 (costAt s.arcs a)) := by
  have e11 : s.R 11 = some (.slice (some ⟨g, 0, none⟩) s.arcs.length c, 67, 4, s.arcs.length, s.arcs.flatMap Arc.cells) := by rw [← hv]; simp [FV.R]
  have h3 := arcCells_get s.arcs a 3 ha (by omega)
  rw [h.own.rcell e11 (by omega), h3, costAt_get ha]; rfl
theorem FinQ.tagsC (h : FinQ w T s fq) : T s.bQueued = 8 ∧ T s.bDist = 9 :=
  ⟨(h.own.arr 8 s.bQueued 70 (s.queued.map (.int .u32)) (by rw [FV.AQ_ne _ _ (by omega)]; simp [FV.A])).1, (h.own.arr 9 s.bDist 21 (s.dist.map (.int .i32)) (by rw [FV.AQ_ne _ _ (by omega)]; simp [FV.A])).1⟩
end
/-- What augmentCheapest does to the finder. -/
def AugCP (s : FV) (sink : Nat) (bl : Option (List Bool)) (pt : Nat → Int) (s' : FV) (ok : Bool) : Prop :=
  ∃ (sn vi ds qd : List Int) (vq : Value) (q od : List Nat) (tm : Nat → Nat) (k : Nat), SnB (s.walk + 1) sn ∧ SnB (s.walk + 1) qd ∧ SI s.n sink bl (s.walk + 1) s.arcs pt sn vi ds qd q od tm k q.length NoEx ∧
    ((ok = false ∧ sink ∉ od ∧ s' = s.searchC (s.walk + 1) sn vi ds qd vq q) ∨
     (ok = true ∧ sink ∈ od ∧ ∃ vt ns ar, s' = (s.searchC (s.walk + 1) sn vi ds qd vq q).pushedAll ar vt ∧ Wy s.n sink s.arcs pt vi ds od ns ar))
def AugCR (w : World) (T : Nat → Nat) (s : FV) (sink : Nat) (bl : Option (List Bool)) (pt : Nat → Int) (e : Ending) (w' : World) : Prop :=
  ∃ ok T' s', e = .returned (.bool ok) ∧ FinAt w' T' s' ∧ Step augCT w T w' T' ∧ AugCP s sink bl pt s' ok
/-- Is the arc passed over? -/
def skipB (n sink : Nat) (bl : Option (List Bool)) (r : Int) (y : Nat) : Bool := decide (r = 0) || (decide (y = 2 * n) || !allowB n sink bl y)
theorem skipB_true {n sink : Nat} {bl : Option (List Bool)} {r : Int} {y : Nat} (h : skipB n sink bl r y = true) : r = 0 ∨ y = 2 * n ∨ allowB n sink bl y = false := by
  unfold skipB at h
  simp at h
  exact h
theorem skipB_false {n sink : Nat} {bl : Option (List Bool)} {r : Int} {y : Nat} (h : skipB n sink bl r y = false) : r ≠ 0 ∧ y ≠ 2 * n ∧ allowB n sink bl y = true := by
  unfold skipB at h
  simp at h
  exact h
end Go.Proofs.Qxb6605292a
