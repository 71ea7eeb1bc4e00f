/-
  The law's own network (zzNet) in memory.
-/
import Derived.Test.Qxb6605292aFinC
import Derived.Test.Qxb6605292aRead
namespace Go.Proofs.Qxb6605292a
open Go.RowKit

/-- The struct, its row first, and four rows that grow: 2 next, 3 to, 4 cap, 5 cost. -/
structure ZV where
  Z : Nat
  F : Nat
  V : Nat
  first : List Int
  rv : Nat → Value
  rl : Nat → List Int
def ZV.fields (z : ZV) : List Value := [.int .i64 z.V, .slice (some ⟨z.F, 0, none⟩) z.V z.V, z.rv 2, z.rv 3, z.rv 4, z.rv 5]
def ZV.A (z : ZV) : Lay := fun t => if t = 1 then some (z.Z, 78, z.fields) else if t = 6 then some (z.F, 21, z.first.map (.int .i32)) else none
def ZV.R (z : ZV) : Gro := fun t => if 2 ≤ t ∧ t ≤ 5 then some (z.rv t, 21, 1, (z.rl t).length, (z.rl t).map (.int .i32)) else none
structure ZAt (w : World) (T : Nat → Nat) (z : ZV) : Prop where
  own : Own w T z.A z.R
  flen : z.first.length = z.V
def ZV.put (z : ZV) (f : Nat) (v : Value) (l : List Int) : ZV := { z with rv := fun t => if t = f then v else z.rv t, rl := fun t => if t = f then l else z.rl t }
def ZV.setFirst (z : ZV) (i : Nat) (x : Int) : ZV := { z with first := z.first.set i x }
theorem ZV.A_one (z : ZV) : z.A 1 = some (z.Z, 78, z.fields) := by simp [ZV.A]
theorem ZV.A_six (z : ZV) : z.A 6 = some (z.F, 21, z.first.map (.int .i32)) := by simp [ZV.A]
theorem ZV.R_at (z : ZV) {f : Nat} (h : 2 ≤ f ∧ f ≤ 5) : z.R f = some (z.rv f, 21, 1, (z.rl f).length, (z.rl f).map (.int .i32)) := by simp [ZV.R, h]
theorem ZV.R_no (z : ZV) {f : Nat} (h : ¬ (2 ≤ f ∧ f ≤ 5)) : z.R f = none := by simp [ZV.R, h]
theorem ZV.A_no (z : ZV) {f : Nat} (h : 2 ≤ f ∧ f ≤ 5) : z.A f = none := by
  unfold ZV.A
  rw [if_neg (by omega), if_neg (by omega)]
section
variable {w w' w0 w1 : World} {T : Nat → Nat} {z : ZV}
theorem ZAt.later (h : ZAt w T z) (hb : Below w.heap.size w w') : ZAt w' T z := ⟨h.own.later hb, h.flen⟩
theorem ZAt.f (h : ZAt w T z) {o : Nat} {v : Value} (ho : z.fields[o]? = some v) : w.cell? ⟨z.Z, o, none⟩ = some v := h.own.at (t := 1) (e := 78) (l := z.fields) z.A_one ho
theorem ZAt.ff (h : ZAt w T z) (o : Nat) : w.frozen? ⟨z.Z, o, none⟩ = false := h.own.frozen (t := 1) (e := 78) (l := z.fields) z.A_one o
theorem ZAt.fc (h : ZAt w T z) {x : Nat} {y : Int} (hx : z.first[x]? = some y) : w.cell? ⟨z.F, x, none⟩ = some (.int .i32 y) := h.own.at (t := 6) (e := 21) (l := z.first.map (.int .i32)) z.A_six (by rw [List.getElem?_map, hx]; rfl)
theorem ZAt.fcf (h : ZAt w T z) (x : Nat) : w.frozen? ⟨z.F, x, none⟩ = false := h.own.frozen (t := 6) (e := 21) (l := z.first.map (.int .i32)) z.A_six x
theorem ZAt.rowV (h : ZAt w T z) {f : Nat} (hf : 2 ≤ f ∧ f ≤ 5) : ∃ ao c, z.rv f = .slice ao (z.rl f).length c := by
  obtain ⟨ao, c, e, _⟩ := ownsRow_slice (h.own.row _ _ _ _ _ _ (z.R_at hf)).1
  exact ⟨ao, c, e⟩
theorem ZAt.row (h : ZAt w T z) {f : Nat} (hf : 2 ≤ f ∧ f ≤ 5) : w.ownsRow 0 21 1 (z.rv f) (z.rl f).length ((z.rl f).map (.int .i32)) := (h.own.row _ _ _ _ _ _ (z.R_at hf)).1
theorem ZAt.neZ (h : ZAt w T z) {f : Nat} (hf : 2 ≤ f ∧ f ≤ 5) : (z.rv f).ownBlock ≠ some z.Z := h.own.row_ne (t := f) (t' := 1) (z.R_at hf) z.A_one (by omega)
theorem ZAt.neF (h : ZAt w T z) {f : Nat} (hf : 2 ≤ f ∧ f ≤ 5) : (z.rv f).ownBlock ≠ some z.F := h.own.row_ne (t := f) (t' := 6) (z.R_at hf) z.A_six (by omega)
/-- An element of a row. -/
theorem ZAt.rc (h : ZAt w T z) {f : Nat} (hf : 2 ≤ f ∧ f ≤ 5) {g c m e : Nat} {y : Int} (hv : z.rv f = .slice (some ⟨g, 0, none⟩) m c) (hm : (z.rl f).length = m) (he : (z.rl f)[e]? = some y) : w.cell? ⟨g, e, none⟩ = some (.int .i32 y) := by
  subst hm
  have hr := z.R_at hf
  rw [hv] at hr
  have hl := (List.getElem?_eq_some_iff.1 he).1
  rw [h.own.rcell hr (by omega), List.getElem?_map, he]; rfl
theorem ZAt.rform (h : ZAt w T z) {f : Nat} (hf : 2 ≤ f ∧ f ≤ 5) (hp : 0 < (z.rl f).length) : ∃ g c, z.rv f = .slice (some ⟨g, 0, none⟩) (z.rl f).length c := by
  obtain ⟨g, c, e, _⟩ := h.own.rform (z.R_at hf) hp
  exact ⟨g, c, e⟩
/-- row f = append(row f, x). -/
theorem ZAt.push {f gg cap H : Nat} {x : Int} (h : ZAt w T z) (hf : 2 ≤ f ∧ f ≤ 5) (hb : Below w.heap.size w w0)
    (hown : w1.ownsRow 0 21 1 (.slice (some ⟨gg, 0, none⟩) ((z.rl f).length + 1) cap) ((z.rl f).length + 1) ((z.rl f).map (.int .i32) ++ [.int .i32 x]))
    (hgrow : w0.grownBy w1 (z.rv f).ownBlock) (hat : (z.rv f).ownBlock = some gg ∨ gg = H) (hH : w0.heap.size = H) (hlt : gg < w1.heap.size) :
    ZAt (w1.setCell ⟨z.Z, f, none⟩ (.slice (some ⟨gg, 0, none⟩) ((z.rl f).length + 1) cap)) (retag T gg f) (z.put f (.slice (some ⟨gg, 0, none⟩) ((z.rl f).length + 1) cap) (z.rl f ++ [x])) ∧
    Step finT w T (w1.setCell ⟨z.Z, f, none⟩ (.slice (some ⟨gg, 0, none⟩) ((z.rl f).length + 1) cap)) (retag T gg f) := by
  have p1 := h.own.push (t := f) (v := z.rv f) (z.R_at hf) (z.A_no hf) hb hown hgrow hat hH hlt
  have q0 := (Step.refl finT w T).grown hb hgrow hat hH (h.own.row _ _ _ _ _ _ (z.R_at hf)).2 (show finT f from by unfold finT; omega)
  have q1 := q0.set (b := z.Z) (o := f) (by rw [(p1.arr 1 z.Z 78 z.fields z.A_one).1]; exact Nat.one_ne_zero) (.slice (some ⟨gg, 0, none⟩) ((z.rl f).length + 1) cap)
  refine ⟨?_, q1⟩
  have p2 := p1.set (t := 1) (b := z.Z) (e := 78) (l := z.fields) z.A_one (by rw [Gro.upd_ne _ _ (by omega)]; exact z.R_no (by omega)) f (.slice (some ⟨gg, 0, none⟩) ((z.rl f).length + 1) cap)
  refine ⟨p2.congr (fun t => ?_) (fun t => ?_), h.flen⟩
  · by_cases h3 : t = 1
    · subst h3
      rw [Lay.upd_same, ZV.A_one]
      have : f = 2 ∨ f = 3 ∨ f = 4 ∨ f = 5 := by omega
      rcases this with rfl | rfl | rfl | rfl <;> rfl
    · rw [Lay.upd_ne _ _ h3]; simp only [ZV.A, if_neg h3]; rfl
  · by_cases h3 : t = f
    · subst h3; rw [Gro.upd_same, ZV.R_at _ hf]; simp [ZV.put]
    · rw [Gro.upd_ne _ _ h3]; simp [ZV.R, ZV.put, h3]
theorem ZAt.setFirst (h : ZAt w T z) (i : Nat) (x : Int) : ZAt (w.setCell ⟨z.F, i, none⟩ (.int .i32 x)) T (z.setFirst i x) ∧ Step finT w T (w.setCell ⟨z.F, i, none⟩ (.int .i32 x)) T := by
  have p := h.own.set (t := 6) z.A_six (z.R_no (by omega)) i (.int .i32 x)
  refine ⟨⟨p.congr (fun t => ?_) (fun _ => rfl), by simp [ZV.setFirst, h.flen]⟩, (Step.refl finT w T).set (b := z.F) (by rw [(h.own.arr 6 z.F 21 _ z.A_six).1]; show (6 : Nat) ≠ 0; omega) _⟩
  by_cases h3 : t = 6
  · subst h3; rw [Lay.upd_same, ZV.A_six]; simp [ZV.setFirst, List.map_set]
  · rw [Lay.upd_ne _ _ h3]; simp only [ZV.A, if_neg h3]; rfl
end
end Go.Proofs.Qxb6605292a
