/-
  The group and its finder in memory: 'FinAt w T s'.
  Tags: 1 the finder, 2 out, 3 nodes, 4 source, 7 seen, 8 queued, 9 distance, 10 via, 11 arcs, 12 touched, 13 queue, 14 the group, 15 its finds, 16 every, 100 + x: the row of node x.
-/
import Derived.Test.Qxb6605292aClone
import Derived.Test.Qxb6605292aOwn
import Derived.Test.Qxb6605292aReg
import Derived.Deep.RegionHeld3
namespace Go.Proofs.Qxb6605292a
open Go.RowKit

theorem Try.info21 : (Try.prog.info? 21).map (fun i => (i.zero, i.size, i.bytes)) = some (some (.int .i32 0), 1, 4) := by kernel_rfl
theorem Try.info67 : (Try.prog.info? 67).map (fun i => (i.zero, i.size, i.bytes)) = some (some (.agg #[.int .i32 0, .int .i8 0, .int .i8 0, .int .i8 0]), 4, 8) := by kernel_rfl

structure Arc where
  to : Int
  room : Int
  full : Int
  cost : Int
def Arc.cells (a : Arc) : List Value := [.int .i32 a.to, .int .i8 a.room, .int .i8 a.full, .int .i8 a.cost]

/-- The values of a group and its finder: where the parts lie, and what they hold. -/
structure FV where
  G : Nat
  F : Nat
  bR : Nat
  bE : Nat
  hasE : Bool
  nb : Value
  mp1 : Value
  mp2 : Value
  n : Nat
  bOut : Nat
  bNodes : Nat
  bSource : Nat
  bSeen : Nat
  bQueued : Nat
  bDist : Nat
  bVia : Nat
  vArcs : Value
  vTouched : Value
  vBlocked : Value
  c7 : Value
  c8 : Value
  c9 : Value
  c10 : Value
  vQueue : Value
  vNodes : List Value
  out : List Bool
  nodes : List (List Int)
  arcs : List Arc
  source : List Int
  touched : List Int
  walk : Int
  seen : List Int
  queued : List Int
  dist : List Int
  via : List Int
  queue : List Int

def FV.V (s : FV) : Nat := 2 * s.n + 1
def at0 (b n : Nat) : Value := .slice (some ⟨b, 0, none⟩) n n
def ptr0 (b : Nat) : Value := .pointer (some ⟨b, 0, none⟩)
def FV.fields (s : FV) : List Value :=
  [ptr0 s.G, at0 s.bOut s.n, at0 s.bNodes s.V, s.vArcs, at0 s.bSource s.n, s.vTouched, s.vBlocked, s.c7, s.c8, s.c9, s.c10, .int .u32 s.walk,
   at0 s.bSeen s.V, at0 s.bQueued s.V, at0 s.bDist s.V, at0 s.bVia s.V, s.vQueue]
def FV.every (s : FV) : Value := if s.hasE then at0 s.bE s.n else .slice none 0 0
def FV.gcells (s : FV) : List Value := [.int .i64 s.n, .int .i64 0, s.nb, s.every, .int .i64 0, ptr0 s.bR]
def FV.rcells (s : FV) : List Value := [.int .i64 (-1), .int .i64 (-1), s.mp1, s.mp2, ptr0 s.F]
def upTo (n : Nat) : List Int := (List.range n).map Int.ofNat
def FV.row (s : FV) (x : Nat) : List Int := s.nodes.getD x []

def FV.A (s : FV) : Lay := fun t =>
  if t = 1 then some (s.F, 73, s.fields) else
  if t = 2 then some (s.bOut, 4, s.out.map .bool) else
  if t = 3 then some (s.bNodes, 45, s.vNodes) else
  if t = 4 then some (s.bSource, 21, s.source.map (.int .i32)) else
  if t = 7 then some (s.bSeen, 70, s.seen.map (.int .u32)) else
  if t = 8 then some (s.bQueued, 70, s.queued.map (.int .u32)) else
  if t = 9 then some (s.bDist, 21, s.dist.map (.int .i32)) else
  if t = 10 then some (s.bVia, 21, s.via.map (.int .i32)) else
  if t = 14 then some (s.G, 83, s.gcells) else
  if t = 15 then some (s.bR, 87, s.rcells) else
  if t = 16 then (if s.hasE then some (s.bE, 3, (upTo s.n).map (.int .i64)) else none) else none
def FV.R (s : FV) : Gro := fun t =>
  if t = 11 then some (s.vArcs, 67, 4, s.arcs.length, s.arcs.flatMap Arc.cells) else
  if t = 12 then some (s.vTouched, 21, 1, s.touched.length, s.touched.map (.int .i32)) else
  if t = 13 then some (s.vQueue, 21, 1, s.queue.length, s.queue.map (.int .i32)) else
  if 100 ≤ t ∧ t < 100 + s.vNodes.length then some (s.vNodes.getD (t - 100) (.slice none 0 0), 21, 1, (s.row (t - 100)).length, (s.row (t - 100)).map (.int .i32)) else none

structure FV.Len (s : FV) : Prop where
  out : s.out.length = s.n
  nodes : s.nodes.length = s.V
  vNodes : s.vNodes.length = s.V
  source : s.source.length = s.n
  seen : s.seen.length = s.V
  queued : s.queued.length = s.V
  dist : s.dist.length = s.V
  via : s.via.length = s.V

structure FinAt (w : World) (T : Nat → Nat) (s : FV) : Prop where
  own : Own w T s.A s.R
  len : s.Len

theorem FV.A_zero (s : FV) : ∀ t x, s.A t = some x → t ≠ 0 := by intro t x h e; subst e; simp [FV.A] at h
theorem FV.R_zero (s : FV) : ∀ t x, s.R t = some x → t ≠ 0 := by intro t x h e; subst e; simp [FV.R] at h
theorem FinAt.later {w w' : World} {T : Nat → Nat} {s : FV} (h : FinAt w T s) (hb : Below w.heap.size w w') : FinAt w' T s := ⟨h.own.later hb, h.len⟩
theorem FinAt.drew {w : World} {T : Nat → Nat} {s : FV} (h : FinAt w T s) : FinAt w.drew T s := ⟨h.own.drew, h.len⟩
theorem FinAt.kept {M : Nat → Prop} {w w' : World} {T : Nat → Nat} {s : FV} (h : FinAt w T s) (hk : Kept M w w') (hm : ∀ b, T b ≠ 0 → ¬ M b) : FinAt w' T s :=
  ⟨h.own.kept hk hm s.A_zero s.R_zero, h.len⟩

theorem FV.R_row (s : FV) {x : Nat} {v : Value} (hv : s.vNodes[x]? = some v) : s.R (100 + x) = some (v, 21, 1, (s.row x).length, (s.row x).map (.int .i32)) := by
  obtain ⟨h, rfl⟩ := List.getElem?_eq_some_iff.1 hv
  have h1 : ¬ (100 + x = 11) := by omega
  have h2 : ¬ (100 + x = 12) := by omega
  have h3 : ¬ (100 + x = 13) := by omega
  simp [FV.R, h1, h2, h3, h]
theorem FV.A_row (s : FV) (x : Nat) : s.A (100 + x) = none := by
  have h : ∀ k, k < 100 → ¬ (100 + x = k) := fun k hk => by omega
  simp [FV.A, h 1, h 2, h 3, h 4, h 7, h 8, h 9, h 10, h 14, h 15, h 16]

/-- The tags that arc touches. -/
def arcT (t : Nat) : Prop := t = 1 ∨ t = 3 ∨ t = 11 ∨ 100 ≤ t
/-- The row of node a gets one number more. -/
def FV.pushRow (s : FV) (a : Nat) (x : Int) (v : Value) : FV := { s with vNodes := s.vNodes.set a v, nodes := s.nodes.set a (s.row a ++ [x]) }
theorem FinAt.pushRow {w w0 w1 : World} {T : Nat → Nat} {s : FV} {a gg cap H : Nat} {x : Int} {va : Value} (h : FinAt w T s) (hva : s.vNodes[a]? = some va) (hb : Below w.heap.size w w0)
    (hown : w1.ownsRow 0 21 1 (.slice (some ⟨gg, 0, none⟩) ((s.row a).length + 1) cap) ((s.row a).length + 1) ((s.row a).map (.int .i32) ++ [.int .i32 x]))
    (hgrow : w0.grownBy w1 va.ownBlock) (hat : va.ownBlock = some gg ∨ gg = H) (hH : w0.heap.size = H) (hlt : gg < w1.heap.size) :
    FinAt (w1.setCell ⟨s.bNodes, a, none⟩ (.slice (some ⟨gg, 0, none⟩) ((s.row a).length + 1) cap)) (retag T gg (100 + a)) (s.pushRow a x (.slice (some ⟨gg, 0, none⟩) ((s.row a).length + 1) cap)) ∧
    Step arcT w T (w1.setCell ⟨s.bNodes, a, none⟩ (.slice (some ⟨gg, 0, none⟩) ((s.row a).length + 1) cap)) (retag T gg (100 + a)) := by
  have hv : a < s.vNodes.length := (List.getElem?_eq_some_iff.1 hva).1
  have hn : a < s.nodes.length := by rw [h.len.nodes, ← h.len.vNodes]; exact hv
  have p1 := h.own.push (s.R_row hva) (s.A_row a) hb hown hgrow hat hH hlt
  have q0 := (Step.refl arcT w T).grown hb hgrow hat hH (h.own.row _ _ _ _ _ _ (s.R_row hva)).2 (.inr (.inr (.inr (by omega))))
  have q1 := q0.set (b := s.bNodes) (o := a) (by rw [(p1.arr 3 s.bNodes 45 s.vNodes (by simp [FV.A])).1]; exact .inr (.inl rfl)) (.slice (some ⟨gg, 0, none⟩) ((s.row a).length + 1) cap)
  refine ⟨?_, q1⟩
  have p2 := p1.set (t := 3) (b := s.bNodes) (e := 45) (l := s.vNodes) (by simp [FV.A]) (by rw [Gro.upd_ne _ _ (by omega)]; simp [FV.R]) a (.slice (some ⟨gg, 0, none⟩) ((s.row a).length + 1) cap)
  refine ⟨p2.congr (fun t => ?_) (fun t => ?_), ?_⟩
  · by_cases h3 : t = 3
    · subst h3; rw [Lay.upd_same]; simp [FV.A, FV.pushRow]
    · rw [Lay.upd_ne _ _ h3]; simp only [FV.A, if_neg h3]; rfl
  · by_cases h3 : t = 100 + a
    · subst h3
      rw [Gro.upd_same, FV.R_row _ (v := .slice (some ⟨gg, 0, none⟩) ((s.row a).length + 1) cap) (by simp [FV.pushRow, hv])]
      simp [FV.pushRow, FV.row, hn]
    · rw [Gro.upd_ne _ _ h3]
      have hx : ∀ x, x ≠ a → (s.pushRow a ‹Int› (.slice (some ⟨gg, 0, none⟩) ((s.row a).length + 1) cap)).row x = s.row x := fun x hx => by
        simp [FV.pushRow, FV.row, List.getElem?_set_ne (Ne.symm hx)]
      unfold FV.R
      simp only [FV.pushRow, List.length_set]
      split
      · rfl
      · split
        · rfl
        · split
          · rfl
          · split
            · rename_i hh
              have hne : t - 100 ≠ a := by omega
              have := hx _ hne
              simp only [FV.pushRow] at this
              rw [this]
              simp [List.getElem?_set_ne (Ne.symm hne)]
            · rfl
  · exact ⟨h.len.out, by simp only [FV.pushRow, List.length_set]; exact h.len.nodes, by simp only [FV.pushRow, List.length_set]; exact h.len.vNodes, h.len.source, h.len.seen, h.len.queued, h.len.dist, h.len.via⟩

/-- The arcs get one more. -/
def FV.pushArc (s : FV) (c : Arc) (v : Value) : FV := { s with vArcs := v, arcs := s.arcs ++ [c] }
theorem FinAt.pushArc {w w0 w1 : World} {T : Nat → Nat} {s : FV} {gg cap H : Nat} {c : Arc} (h : FinAt w T s) (hb : Below w.heap.size w w0)
    (hown : w1.ownsRow 0 67 4 (.slice (some ⟨gg, 0, none⟩) (s.arcs.length + 1) cap) (s.arcs.length + 1) (s.arcs.flatMap Arc.cells ++ c.cells))
    (hgrow : w0.grownBy w1 s.vArcs.ownBlock) (hat : s.vArcs.ownBlock = some gg ∨ gg = H) (hH : w0.heap.size = H) (hlt : gg < w1.heap.size) :
    FinAt (w1.setCell ⟨s.F, 3, none⟩ (.slice (some ⟨gg, 0, none⟩) (s.arcs.length + 1) cap)) (retag T gg 11) (s.pushArc c (.slice (some ⟨gg, 0, none⟩) (s.arcs.length + 1) cap)) ∧
    Step arcT w T (w1.setCell ⟨s.F, 3, none⟩ (.slice (some ⟨gg, 0, none⟩) (s.arcs.length + 1) cap)) (retag T gg 11) := by
  have p1 := h.own.push (t := 11) (v := s.vArcs) (by simp [FV.R]) (by simp [FV.A]) hb hown hgrow hat hH hlt
  have e11 : s.R 11 = some (s.vArcs, 67, 4, s.arcs.length, s.arcs.flatMap Arc.cells) := by simp [FV.R]
  have q0 := (Step.refl arcT w T).grown hb hgrow hat hH (h.own.row _ _ _ _ _ _ e11).2 (.inr (.inr (.inl rfl)))
  have q1 := q0.set (b := s.F) (o := 3) (by rw [(p1.arr 1 s.F 73 s.fields (by simp [FV.A])).1]; exact .inl rfl) (.slice (some ⟨gg, 0, none⟩) (s.arcs.length + 1) cap)
  refine ⟨?_, q1⟩
  have p2 := p1.set (t := 1) (b := s.F) (e := 73) (l := s.fields) (by simp [FV.A]) (by rw [Gro.upd_ne _ _ (by omega)]; simp [FV.R]) 3 (.slice (some ⟨gg, 0, none⟩) (s.arcs.length + 1) cap)
  refine ⟨p2.congr (fun t => ?_) (fun t => ?_), ?_⟩
  · by_cases h3 : t = 1
    · subst h3; rw [Lay.upd_same]; simp [FV.A, FV.pushArc, FV.fields, FV.V]
    · rw [Lay.upd_ne _ _ h3]; simp only [FV.A, if_neg h3]; rfl
  · by_cases h3 : t = 11
    · subst h3; rw [Gro.upd_same]; simp [FV.R, FV.pushArc]
    · rw [Gro.upd_ne _ _ h3]; simp only [FV.R, if_neg h3]; rfl
  · exact ⟨h.len.out, h.len.nodes, h.len.vNodes, h.len.source, h.len.seen, h.len.queued, h.len.dist, h.len.via⟩

theorem wrap32_nat {m : Nat} (h : m ≤ 2000000000) : IntKind.i32.wrap (m : Int) = m := by rw [IntKind.wrap_i32]; omega
theorem Own.row_ne {w : World} {T : Nat → Nat} {A : Lay} {R : Gro} (h : Own w T A R) {t t' n z b : Nat} {v : Value} {e e' : TypeId} {xs l : List Value} (ht : R t = some (v, e, z, n, xs)) (ht' : A t' = some (b, e', l)) (hne : t ≠ t') : v.ownBlock ≠ some b := fun hv =>
  hne (by rw [← (h.row _ _ _ _ _ _ ht).2 b hv]; exact (h.arr _ _ _ _ ht').1)
theorem Own.arr_ne {w : World} {T : Nat → Nat} {A : Lay} {R : Gro} (h : Own w T A R) {t t' b b' : Nat} {e e' : TypeId} {l l' : List Value} (ht : A t = some (b, e, l)) (ht' : A t' = some (b', e', l')) (hne : t ≠ t') : b ≠ b' := fun hb =>
  hne (by rw [← (h.arr _ _ _ _ ht).1, ← (h.arr _ _ _ _ ht').1, hb])

/-- What arc's walk wants to know, at node a. -/
structure ForArc (w : World) (s : FV) (a : Nat) (ao : Option Addr) (ac : Nat) (va : Value) : Prop where
  c2 : w.cell? ⟨s.F, 2, none⟩ = some (.slice (some ⟨s.bNodes, 0, none⟩) s.V s.V)
  c3 : w.cell? ⟨s.F, 3, none⟩ = some (.slice ao s.arcs.length ac)
  cn : w.cell? ⟨s.bNodes, a, none⟩ = some va
  f3 : w.frozen? ⟨s.F, 3, none⟩ = false
  fn : w.frozen? ⟨s.bNodes, a, none⟩ = false
  ro : w.ownsRow 0 21 1 va (s.row a).length ((s.row a).map (.int .i32))
  ra : w.ownsRow 0 67 4 s.vArcs s.arcs.length (s.arcs.flatMap Arc.cells)
  eva : s.vArcs = .slice ao s.arcs.length ac
  ne1 : va.ownBlock ≠ some s.F
  ne2 : va.ownBlock ≠ some s.bNodes
  ne3 : s.vArcs.ownBlock ≠ some s.F
  ne : s.F ≠ s.bNodes
theorem FinAt.forArc {w : World} {T : Nat → Nat} {s : FV} {a : Nat} (h : FinAt w T s) (ha : a < s.V) : ∃ ao ac va, s.vNodes[a]? = some va ∧ ForArc w s a ao ac va := by
  have hv : a < s.vNodes.length := by rw [h.len.vNodes]; exact ha
  have hva : s.vNodes[a]? = some s.vNodes[a] := by simp [hv]
  have e1 : s.A 1 = some (s.F, 73, s.fields) := by simp [FV.A]
  have e3 : s.A 3 = some (s.bNodes, 45, s.vNodes) := by simp [FV.A]
  have e11 : s.R 11 = some (s.vArcs, 67, 4, s.arcs.length, s.arcs.flatMap Arc.cells) := by simp [FV.R]
  obtain ⟨ra, _⟩ := h.own.row _ _ _ _ _ _ e11
  obtain ⟨ao, ac, hva', _⟩ := ownsRow_slice ra
  exact ⟨ao, ac, _, hva, h.own.at e1 rfl, h.own.at e1 (by rw [← hva']; rfl), h.own.at e3 hva, h.own.frozen e1 3, h.own.frozen e3 a, (h.own.row _ _ _ _ _ _ (s.R_row hva)).1, ra, hva',
    h.own.row_ne (s.R_row hva) e1 (by omega), h.own.row_ne (s.R_row hva) e3 (by omega), h.own.row_ne e11 e1 (by omega), h.own.arr_ne e1 e3 (by omega)⟩

/-- What arc leaves. -/
def FV.arcd (s : FV) (a b : Nat) (full cost : Int) (va : Value) (vn : List Value) : FV :=
  { s with vArcs := va, vNodes := vn,
           nodes := (s.nodes.set a (s.row a ++ [(s.arcs.length : Int)])).set b ((s.nodes.set a (s.row a ++ [(s.arcs.length : Int)])).getD b [] ++ [(s.arcs.length : Int) + 1]),
           arcs := s.arcs ++ [⟨b, full, full, cost⟩] ++ [⟨a, 0, 0, -cost⟩] }
def ArcR (w : World) (T : Nat → Nat) (s : FV) (a b : Nat) (full cost : Int) (e : Ending) (w' : World) : Prop :=
  e = .returned (.tuple #[]) ∧ ∃ T' va vn, FinAt w' T' (s.arcd a b full cost va vn) ∧ Step arcT w T w' T'
end Go.Proofs.Qxb6605292a
