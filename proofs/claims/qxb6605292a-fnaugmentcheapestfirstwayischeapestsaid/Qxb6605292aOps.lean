/-
  What single stores do to the finder.
-/
import Derived.Test.Qxb6605292aFin
namespace Go.Proofs.Qxb6605292a
open Go.RowKit

theorem FV.AR (s : FV) {t : Nat} {x : Nat × TypeId × List Value} (h : s.A t = some x) : s.R t = none := by
  by_cases h1 : t < 11 ∨ (13 < t ∧ t < 100)
  · have a1 : ¬ t = 11 := by omega
    have a2 : ¬ t = 12 := by omega
    have a3 : ¬ t = 13 := by omega
    have a4 : ¬ (100 ≤ t ∧ t < 100 + s.vNodes.length) := by omega
    simp [FV.R, a1, a2, a3, a4]
  · exfalso
    have e : ∀ k, k < 11 → ¬ t = k := fun k hk => by omega
    have e14 : ¬ t = 14 := by omega
    have e15 : ¬ t = 15 := by omega
    have e16 : ¬ t = 16 := by omega
    simp [FV.A, e 1, e 2, e 3, e 4, e 7, e 8, e 9, e 10, e14, e15, e16] at h

theorem FinAt.setA {w : World} {T : Nat → Nat} {s s' : FV} (h : FinAt w T s) {t b : Nat} {e : TypeId} {l : List Value} (ht : s.A t = some (b, e, l)) (o : Nat) (v : Value)
    (hA : ∀ t', s'.A t' = (s.A.upd t (b, e, l.set o v)) t') (hR : ∀ t', s'.R t' = s.R t') (hl : s'.Len) : FinAt (w.setCell ⟨b, o, none⟩ v) T s' :=
  ⟨(h.own.set ht (s.AR ht) o v).congr hA hR, hl⟩
theorem Own.setWhole {w w' : World} {T : Nat → Nat} {A : Lay} {R : Gro} (h : Own w T A R) {t b : Nat} {e : TypeId} {l l' : List Value} (ht : A t = some (b, e, l)) (hnot : R t = none) (hk : Kept (fun k => k = b) w w') (hr : Rw w' b e l') (hs : w'.heap.size = w.heap.size) : Own w' T (A.upd t (b, e, l')) R := by
  obtain ⟨tb, rb⟩ := h.arr _ _ _ _ ht
  refine ⟨fun t' b' e' l'' ht' => ?_, fun t' v' e' z n xs ht' => ?_, fun b' hb => h.new b' (by omega)⟩
  · by_cases hne : t' = t
    · subst hne
      rw [Lay.upd_same] at ht'
      cases ht'
      exact ⟨tb, hr⟩
    · rw [Lay.upd_ne _ _ hne] at ht'
      obtain ⟨h1, h2⟩ := h.arr _ _ _ _ ht'
      exact ⟨h1, h2.kept hk (fun hb => hne (by rw [← h1, hb, tb]))⟩
  · obtain ⟨h1, h2⟩ := h.row _ _ _ _ _ _ ht'
    refine ⟨ownsRow_kept h1 hk (fun g hg hgb => ?_), h2⟩
    have := h2 g hg
    rw [hgb, tb] at this
    subst this
    rw [hnot] at ht'
    cases ht'

/-- 'clear(xs)', xs a whole block of bools. -/
theorem run_clear_bools {w : World} {b n c : Nat} {l : List Value} (h : Rw w b 4 l) (hl : l.length = n) (hn : 0 < n) (ty : TypeId) :
    (Builtin.clear_ #[36] ty #[.slice (some ⟨b, 0, none⟩) n c]).run Try.prog w = .ok (.tuple #[]) (w.setRow b (List.replicate n (.bool false)).toArray) := by
  obtain ⟨i0, hi, hz0, hz1, hz2⟩ := info_parts Try.info4
  have hz : (zeroValue 4).run Try.prog w = .ok (.bool false) w := by simp [zeroValue, typeInfo, hi, hz0, Result.andThen]
  have hzc : (Builtin.zeroCells (Value.bool false).cells n).toList = List.replicate n (.bool false) := by
    apply List.ext_getElem?
    intro j
    by_cases hj : j < n
    · simp [Builtin.zeroCells, Value.cells, hj, Nat.mod_one]
    · simp [Builtin.zeroCells, Value.cells, hj]
  have hst := run_storeCells_at Try.prog b 0 4 (List.replicate n (.bool false)) 0 l.toArray w h (by simp; omega) (by intro v hv; rw [List.eq_of_mem_replicate hv]; rfl)
  have e : n = (n - 1) + 1 := by omega
  simp only [Nat.zero_add, List.take_zero, List.nil_append, List.length_replicate, List.drop_of_length_le (Nat.le_of_eq hl), List.append_nil, Nat.add_zero] at hst
  rw [e]
  rw [e] at hzc hst
  simp [Builtin.clear_, run_underlying Try.underlying36, hz, hzc, hst, Result.andThen]
theorem kept_setRow (w : World) (b : Nat) (cs : Array Value) : Kept (fun k => k = b) w (w.setRow b cs) :=
  ⟨rfl, rfl, rfl, by simp, fun _ _ hn => setRow_other w b _ cs hn⟩
theorem Rw.setRow {w : World} {b : Nat} {e : TypeId} {l l' : List Value} (h : Rw w b e l) : Rw (w.setRow b l'.toArray) b e l' := setRow_heap w b _ _ _ _ h

def FV.setOut (s : FV) (i : Nat) (x : Bool) : FV := { s with out := s.out.set i x }
theorem FinAt.setOut {w : World} {T : Nat → Nat} {s : FV} (h : FinAt w T s) (i : Nat) (x : Bool) : FinAt (w.setCell ⟨s.bOut, i, none⟩ (.bool x)) T (s.setOut i x) :=
  h.setA (t := 2) (b := s.bOut) (e := 4) (l := s.out.map .bool) (by simp [FV.A]) i _
    (fun t => by
      by_cases e : t = 2
      · subst e; rw [Lay.upd_same]; simp [FV.A, FV.setOut, List.map_set]
      · rw [Lay.upd_ne _ _ e]; simp only [FV.A, if_neg e]; rfl)
    (fun _ => rfl) ⟨by simp only [FV.setOut, List.length_set]; exact h.len.out, h.len.nodes, h.len.vNodes, h.len.source, h.len.seen, h.len.queued, h.len.dist, h.len.via⟩
def FV.setSource (s : FV) (i : Nat) (x : Int) : FV := { s with source := s.source.set i x }
theorem FinAt.setSource {w : World} {T : Nat → Nat} {s : FV} (h : FinAt w T s) (i : Nat) (x : Int) : FinAt (w.setCell ⟨s.bSource, i, none⟩ (.int .i32 x)) T (s.setSource i x) :=
  h.setA (t := 4) (b := s.bSource) (e := 21) (l := s.source.map (.int .i32)) (by simp [FV.A]) i _
    (fun t => by
      by_cases e : t = 4
      · subst e; rw [Lay.upd_same]; simp [FV.A, FV.setSource, List.map_set]
      · rw [Lay.upd_ne _ _ e]; simp only [FV.A, if_neg e]; rfl)
    (fun _ => rfl) ⟨h.len.out, h.len.nodes, h.len.vNodes, by simp only [FV.setSource, List.length_set]; exact h.len.source, h.len.seen, h.len.queued, h.len.dist, h.len.via⟩
def FV.setSeen (s : FV) (i : Nat) (x : Int) : FV := { s with seen := s.seen.set i x }
theorem FinAt.setSeen {w : World} {T : Nat → Nat} {s : FV} (h : FinAt w T s) (i : Nat) (x : Int) : FinAt (w.setCell ⟨s.bSeen, i, none⟩ (.int .u32 x)) T (s.setSeen i x) :=
  h.setA (t := 7) (b := s.bSeen) (e := 70) (l := s.seen.map (.int .u32)) (by simp [FV.A]) i _
    (fun t => by
      by_cases e : t = 7
      · subst e; rw [Lay.upd_same]; simp [FV.A, FV.setSeen, List.map_set]
      · rw [Lay.upd_ne _ _ e]; simp only [FV.A, if_neg e]; rfl)
    (fun _ => rfl) ⟨h.len.out, h.len.nodes, h.len.vNodes, h.len.source, by simp only [FV.setSeen, List.length_set]; exact h.len.seen, h.len.queued, h.len.dist, h.len.via⟩
def FV.setQueued (s : FV) (i : Nat) (x : Int) : FV := { s with queued := s.queued.set i x }
theorem FinAt.setQueued {w : World} {T : Nat → Nat} {s : FV} (h : FinAt w T s) (i : Nat) (x : Int) : FinAt (w.setCell ⟨s.bQueued, i, none⟩ (.int .u32 x)) T (s.setQueued i x) :=
  h.setA (t := 8) (b := s.bQueued) (e := 70) (l := s.queued.map (.int .u32)) (by simp [FV.A]) i _
    (fun t => by
      by_cases e : t = 8
      · subst e; rw [Lay.upd_same]; simp [FV.A, FV.setQueued, List.map_set]
      · rw [Lay.upd_ne _ _ e]; simp only [FV.A, if_neg e]; rfl)
    (fun _ => rfl) ⟨h.len.out, h.len.nodes, h.len.vNodes, h.len.source, h.len.seen, by simp only [FV.setQueued, List.length_set]; exact h.len.queued, h.len.dist, h.len.via⟩
def FV.setDist (s : FV) (i : Nat) (x : Int) : FV := { s with dist := s.dist.set i x }
theorem FinAt.setDist {w : World} {T : Nat → Nat} {s : FV} (h : FinAt w T s) (i : Nat) (x : Int) : FinAt (w.setCell ⟨s.bDist, i, none⟩ (.int .i32 x)) T (s.setDist i x) :=
  h.setA (t := 9) (b := s.bDist) (e := 21) (l := s.dist.map (.int .i32)) (by simp [FV.A]) i _
    (fun t => by
      by_cases e : t = 9
      · subst e; rw [Lay.upd_same]; simp [FV.A, FV.setDist, List.map_set]
      · rw [Lay.upd_ne _ _ e]; simp only [FV.A, if_neg e]; rfl)
    (fun _ => rfl) ⟨h.len.out, h.len.nodes, h.len.vNodes, h.len.source, h.len.seen, h.len.queued, by simp only [FV.setDist, List.length_set]; exact h.len.dist, h.len.via⟩
def FV.setVia (s : FV) (i : Nat) (x : Int) : FV := { s with via := s.via.set i x }
theorem FinAt.setVia {w : World} {T : Nat → Nat} {s : FV} (h : FinAt w T s) (i : Nat) (x : Int) : FinAt (w.setCell ⟨s.bVia, i, none⟩ (.int .i32 x)) T (s.setVia i x) :=
  h.setA (t := 10) (b := s.bVia) (e := 21) (l := s.via.map (.int .i32)) (by simp [FV.A]) i _
    (fun t => by
      by_cases e : t = 10
      · subst e; rw [Lay.upd_same]; simp [FV.A, FV.setVia, List.map_set]
      · rw [Lay.upd_ne _ _ e]; simp only [FV.A, if_neg e]; rfl)
    (fun _ => rfl) ⟨h.len.out, h.len.nodes, h.len.vNodes, h.len.source, h.len.seen, h.len.queued, h.len.dist, by simp only [FV.setVia, List.length_set]; exact h.len.via⟩

/-- All of out is false. -/
def FV.clearOut (s : FV) : FV := { s with out := List.replicate s.n false }
theorem FinAt.clearOut {w : World} {T : Nat → Nat} {s : FV} (h : FinAt w T s) : FinAt (w.setRow s.bOut (List.replicate s.n (.bool false)).toArray) T s.clearOut := by
  have e2 : s.A 2 = some (s.bOut, 4, s.out.map .bool) := by simp [FV.A]
  refine ⟨(h.own.setWhole e2 (s.AR e2) (kept_setRow _ _ _) (h.own.arr _ _ _ _ e2).2.setRow (by simp)).congr (fun t => ?_) (fun _ => rfl), ⟨by simp [FV.clearOut], h.len.nodes, h.len.vNodes, h.len.source, h.len.seen, h.len.queued, h.len.dist, h.len.via⟩⟩
  by_cases e : t = 2
  · subst e; rw [Lay.upd_same]; simp [FV.A, FV.clearOut]
  · rw [Lay.upd_ne _ _ e]; simp only [FV.A, if_neg e]; rfl
theorem Step.setRow {M : Nat → Prop} {a w : World} {T T1 : Nat → Nat} (h : Step M a T w T1) {b : Nat} (hm : M (T1 b)) (cs : Array Value) : Step M a T (w.setRow b cs) T1 :=
  ⟨h.kept.trans (kept_setRow w b cs) (fun i hi e => by subst e; show M (T i); rw [← h.tags i hi]; exact hm), h.tags⟩

/-- A field of the finder that is no row. -/
theorem FinAt.setF {w : World} {T : Nat → Nat} {s s' : FV} (h : FinAt w T s) (o : Nat) (v : Value) (hf : s'.fields = s.fields.set o v)
    (hA : ∀ t, t ≠ 1 → s'.A t = s.A t) (hF : s'.F = s.F) (hR : ∀ t', s'.R t' = s.R t') (hl : s'.Len) : FinAt (w.setCell ⟨s.F, o, none⟩ v) T s' :=
  h.setA (t := 1) (b := s.F) (e := 73) (l := s.fields) (by simp [FV.A]) o v (fun t => by
    by_cases e : t = 1
    · subst e; rw [Lay.upd_same]; simp [FV.A, hf, hF]
    · rw [Lay.upd_ne _ _ e]; exact hA t e) hR hl

/-- The row of node x cut to nothing. -/
def FV.cutRow (s : FV) (x : Nat) (v : Value) : FV := { s with vNodes := s.vNodes.set x v, nodes := s.nodes.set x [] }
theorem FinAt.cutRow {w : World} {T : Nat → Nat} {s : FV} {x cap : Nat} {ao : Option Addr} (h : FinAt w T s) (hv : s.vNodes[x]? = some (.slice ao (s.row x).length cap)) :
    FinAt (w.setCell ⟨s.bNodes, x, none⟩ (.slice ao 0 cap)) T (s.cutRow x (.slice ao 0 cap)) := by
  have hx : x < s.vNodes.length := (List.getElem?_eq_some_iff.1 hv).1
  have hn : x < s.nodes.length := by rw [h.len.nodes, ← h.len.vNodes]; exact hx
  have p1 := h.own.cut (s.R_row hv)
  have p2 := p1.set (t := 3) (b := s.bNodes) (e := 45) (l := s.vNodes) (by simp [FV.A]) (by rw [Gro.upd_ne _ _ (by omega)]; simp [FV.R]) x (.slice ao 0 cap)
  refine ⟨p2.congr (fun t => ?_) (fun t => ?_), ⟨h.len.out, by simp only [FV.cutRow, List.length_set]; exact h.len.nodes, by simp only [FV.cutRow, List.length_set]; exact h.len.vNodes, h.len.source, h.len.seen, h.len.queued, h.len.dist, h.len.via⟩⟩
  · by_cases h3 : t = 3
    · subst h3; rw [Lay.upd_same]; simp [FV.A, FV.cutRow]
    · rw [Lay.upd_ne _ _ h3]; simp only [FV.A, if_neg h3]; rfl
  · by_cases h3 : t = 100 + x
    · subst h3
      rw [Gro.upd_same, FV.R_row _ (v := .slice ao 0 cap) (by simp [FV.cutRow, hx])]
      simp [FV.cutRow, FV.row, hn]
    · rw [Gro.upd_ne _ _ h3]
      have hy : ∀ y, y ≠ x → (s.cutRow x (.slice ao 0 cap)).row y = s.row y := fun y hy => by
        simp [FV.cutRow, FV.row, List.getElem?_set_ne (Ne.symm hy)]
      unfold FV.R
      simp only [FV.cutRow, List.length_set]
      split
      · rfl
      · split
        · rfl
        · split
          · rfl
          · split
            · rename_i hh
              have hne : t - 100 ≠ x := by omega
              have := hy _ hne
              simp only [FV.cutRow] at this
              rw [this]
              simp [List.getElem?_set_ne (Ne.symm hne)]
            · rfl
/-- The arcs cut to nothing. -/
def FV.cutArcs (s : FV) (v : Value) : FV := { s with vArcs := v, arcs := [] }
theorem FinAt.cutArcs {w : World} {T : Nat → Nat} {s : FV} {cap : Nat} {ao : Option Addr} (h : FinAt w T s) (hv : s.vArcs = .slice ao s.arcs.length cap) : FinAt (w.setCell ⟨s.F, 3, none⟩ (.slice ao 0 cap)) T (s.cutArcs (.slice ao 0 cap)) := by
  have p1 := h.own.cut (t := 11) (n := s.arcs.length) (ao := ao) (cap := cap) (e := 67) (z := 4) (xs := s.arcs.flatMap Arc.cells) (by simp [FV.R, hv])
  have p2 := p1.set (t := 1) (b := s.F) (e := 73) (l := s.fields) (by simp [FV.A]) (by rw [Gro.upd_ne _ _ (by omega)]; simp [FV.R]) 3 (.slice ao 0 cap)
  refine ⟨p2.congr (fun t => ?_) (fun t => ?_), ⟨h.len.out, h.len.nodes, h.len.vNodes, h.len.source, h.len.seen, h.len.queued, h.len.dist, h.len.via⟩⟩
  · by_cases h3 : t = 1
    · subst h3; rw [Lay.upd_same]; simp [FV.A, FV.cutArcs, FV.fields, FV.V]
    · rw [Lay.upd_ne _ _ h3]; simp only [FV.A, if_neg h3]; rfl
  · by_cases h3 : t = 11
    · subst h3; rw [Gro.upd_same]; simp [FV.R, FV.cutArcs]
    · rw [Gro.upd_ne _ _ h3]; simp only [FV.R, if_neg h3]; rfl
def FV.cutTouched (s : FV) (v : Value) : FV := { s with vTouched := v, touched := [] }
theorem FinAt.cutTouched {w : World} {T : Nat → Nat} {s : FV} {cap : Nat} {ao : Option Addr} (h : FinAt w T s) (hv : s.vTouched = .slice ao s.touched.length cap) : FinAt (w.setCell ⟨s.F, 5, none⟩ (.slice ao 0 cap)) T (s.cutTouched (.slice ao 0 cap)) := by
  have p1 := h.own.cut (t := 12) (n := s.touched.length) (ao := ao) (cap := cap) (e := 21) (z := 1) (xs := s.touched.map (.int .i32)) (by simp [FV.R, hv])
  have p2 := p1.set (t := 1) (b := s.F) (e := 73) (l := s.fields) (by simp [FV.A]) (by rw [Gro.upd_ne _ _ (by omega)]; simp [FV.R]) 5 (.slice ao 0 cap)
  refine ⟨p2.congr (fun t => ?_) (fun t => ?_), ⟨h.len.out, h.len.nodes, h.len.vNodes, h.len.source, h.len.seen, h.len.queued, h.len.dist, h.len.via⟩⟩
  · by_cases h3 : t = 1
    · subst h3; rw [Lay.upd_same]; simp [FV.A, FV.cutTouched, FV.fields, FV.V]
    · rw [Lay.upd_ne _ _ h3]; simp only [FV.A, if_neg h3]; rfl
  · by_cases h3 : t = 12
    · subst h3; rw [Gro.upd_same]; simp [FV.R, FV.cutTouched]
    · rw [Gro.upd_ne _ _ h3]; simp only [FV.R, if_neg h3]; rfl
def FV.setBlocked (s : FV) (v : Value) : FV := { s with vBlocked := v }
theorem FinAt.setBlocked {w : World} {T : Nat → Nat} {s : FV} (h : FinAt w T s) (v : Value) : FinAt (w.setCell ⟨s.F, 6, none⟩ v) T (s.setBlocked v) :=
  h.setF 6 v rfl (fun t e => by simp only [FV.A, if_neg e]; rfl) rfl (fun _ => rfl) ⟨h.len.out, h.len.nodes, h.len.vNodes, h.len.source, h.len.seen, h.len.queued, h.len.dist, h.len.via⟩
def FV.setWalk (s : FV) (x : Int) : FV := { s with walk := x }
theorem FinAt.setWalk {w : World} {T : Nat → Nat} {s : FV} (h : FinAt w T s) (x : Int) : FinAt (w.setCell ⟨s.F, 11, none⟩ (.int .u32 x)) T (s.setWalk x) :=
  h.setF 11 _ rfl (fun t e => by simp only [FV.A, if_neg e]; rfl) rfl (fun _ => rfl) ⟨h.len.out, h.len.nodes, h.len.vNodes, h.len.source, h.len.seen, h.len.queued, h.len.dist, h.len.via⟩
end Go.Proofs.Qxb6605292a
