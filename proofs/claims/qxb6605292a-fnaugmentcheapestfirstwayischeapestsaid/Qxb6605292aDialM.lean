/-
  The law's bucket search (zzCheapest) in memory: labels, done, buckets that grow.
-/
import Derived.Test.Qxb6605292aDial
import Derived.Test.Qxb6605292aMaxM
namespace Go.Proofs.Qxb6605292a
open Go.RowKit

def nilS : Value := .slice none 0 0
def dA (H : Nat) (ds : List Int) (dn : List Bool) (vs : List Value) : Lay := fun t =>
  if t = 1 then some (H, 21, ds.map (.int .i32)) else if t = 2 then some (H + 1, 4, dn.map .bool) else if t = 3 then some (H + 2, 45, vs) else none
def bkt (B : List (List Nat)) (i : Nat) : List Value := (B.getD i []).map fun x : Nat => Value.int .i32 (x : Int)
def dR (vs : List Value) (B : List (List Nat)) : Gro := fun t =>
  if 100 ≤ t ∧ t < 100 + vs.length then some (vs.getD (t - 100) nilS, 21, 1, (B.getD (t - 100) []).length, bkt B (t - 100)) else none
theorem dA_row (H : Nat) (ds : List Int) (dn : List Bool) (vs : List Value) (i : Nat) : dA H ds dn vs (100 + i) = none := by
  unfold dA
  rw [if_neg (by omega), if_neg (by omega), if_neg (by omega)]
theorem dR_low (vs : List Value) (B : List (List Nat)) {t : Nat} (h : t < 100) : dR vs B t = none := by
  unfold dR
  rw [if_neg (by omega)]
theorem dR_row {vs : List Value} (B : List (List Nat)) {i : Nat} {v : Value} (h : vs[i]? = some v) : dR vs B (100 + i) = some (v, 21, 1, (B.getD i []).length, bkt B i) := by
  obtain ⟨hl, e⟩ := List.getElem?_eq_some_iff.1 h
  unfold dR
  rw [if_pos (by omega), Nat.add_sub_cancel_left, List.getD_eq_getElem?_getD, h]
  rfl
structure DM (w : World) (H : Nat) (ds : List Int) (dn : List Bool) (vs : List Value) (B : List (List Nat)) (wr : World) : Prop where
  k : Kept (fun b => H ≤ b) w wr
  hl : H ≤ wr.heap.size
  vl : vs.length = B.length
  own : ∃ T, Own wr T (dA H ds dn vs) (dR vs B) ∧ ∀ b, T b ≠ 0 → H ≤ b
section
variable {w wr w' : World} {H : Nat} {ds : List Int} {dn : List Bool} {vs : List Value} {B : List (List Nat)}
theorem DM.start {n1 : Nat} (hk : Below H w wr) (hw : w.heap.size = H) (hs : wr.heap.size = H + 3) (r1 : Rw wr H 21 (ds.map (.int .i32))) (r2 : Rw wr (H + 1) 4 (dn.map .bool)) (r3 : Rw wr (H + 2) 45 (List.replicate n1 nilS)) : DM w H ds dn (List.replicate n1 nilS) (List.replicate n1 []) wr := by
  refine ⟨(Kept.refl _ _).of_below (by rw [hw]; exact hk), by omega, by simp, fun b => if b = H then 1 else if b = H + 1 then 2 else if b = H + 2 then 3 else 0, ⟨fun t b e l ht => ?_, fun t v e z n xs ht => ?_, fun b hb => ?_⟩, fun b hb => ?_⟩
  · unfold dA at ht
    by_cases h1 : t = 1
    · rw [if_pos h1] at ht
      cases ht
      exact ⟨by rw [if_pos rfl]; exact h1.symm, r1⟩
    · rw [if_neg h1] at ht
      by_cases h2 : t = 2
      · rw [if_pos h2] at ht
        cases ht
        exact ⟨by rw [if_neg (by omega), if_pos rfl]; exact h2.symm, r2⟩
      · rw [if_neg h2] at ht
        by_cases h3 : t = 3
        · rw [if_pos h3] at ht
          cases ht
          exact ⟨by rw [if_neg (by omega), if_neg (by omega), if_pos rfl]; exact h3.symm, r3⟩
        · rw [if_neg h3] at ht; cases ht
  · unfold dR at ht
    by_cases h1 : 100 ≤ t ∧ t < 100 + (List.replicate n1 nilS).length
    · rw [if_pos h1] at ht
      have e1 : (List.replicate n1 nilS).getD (t - 100) nilS = nilS := by
        rw [List.getD_eq_getElem?_getD, List.getElem?_replicate]
        split <;> rfl
      have e2 : (List.replicate n1 ([] : List Nat)).getD (t - 100) [] = [] := by
        rw [List.getD_eq_getElem?_getD, List.getElem?_replicate]
        split <;> rfl
      unfold bkt at ht
      rw [e1, e2] at ht
      cases ht
      exact ⟨World.ownsRow_nil _ _ _ _, fun g hg => by simp [nilS, Value.ownBlock] at hg⟩
    · rw [if_neg h1] at ht; cases ht
  · show (if b = H then 1 else if b = H + 1 then 2 else if b = H + 2 then 3 else 0) = 0
    rw [if_neg (by omega), if_neg (by omega), if_neg (by omega)]
  · have hb' : (if b = H then 1 else if b = H + 1 then 2 else if b = H + 2 then 3 else 0) ≠ 0 := hb
    split at hb'
    · omega
    · split at hb'
      · omega
      · split at hb'
        · omega
        · exact absurd rfl hb'
theorem DM.dist (h : DM w H ds dn vs B wr) {x : Nat} (hx : x < ds.length) : wr.cell? ⟨H, x, none⟩ = some (.int .i32 (lbA ds x)) ∧ wr.frozen? ⟨H, x, none⟩ = false := by
  obtain ⟨T, ho, _⟩ := h.own
  have e : dA H ds dn vs 1 = some (H, 21, ds.map (.int .i32)) := by simp [dA]
  exact ⟨ho.at e (by simp [hx, lbA]), ho.frozen e x⟩
theorem DM.don (h : DM w H ds dn vs B wr) {x : Nat} (hx : x < dn.length) : wr.cell? ⟨H + 1, x, none⟩ = some (.bool (dn.getD x false)) ∧ wr.frozen? ⟨H + 1, x, none⟩ = false := by
  obtain ⟨T, ho, _⟩ := h.own
  have e : dA H ds dn vs 2 = some (H + 1, 4, dn.map .bool) := by simp [dA]
  exact ⟨ho.at e (by simp [hx]), ho.frozen e x⟩
theorem DM.row (h : DM w H ds dn vs B wr) {i : Nat} {v : Value} (hv : vs[i]? = some v) : wr.ownsRow 0 21 1 v (B.getD i []).length (bkt B i) := by
  obtain ⟨T, ho, _⟩ := h.own
  exact (ho.row _ _ _ _ _ _ (dR_row B hv)).1
theorem DM.slot (h : DM w H ds dn vs B wr) {i : Nat} (hi : i < vs.length) : ∃ ao c, vs[i]? = some (.slice ao (B.getD i []).length c) ∧ (B.getD i []).length ≤ c ∧ wr.cell? ⟨H + 2, i, none⟩ = some (.slice ao (B.getD i []).length c) ∧ wr.frozen? ⟨H + 2, i, none⟩ = false := by
  have hv : vs[i]? = some vs[i] := List.getElem?_eq_getElem hi
  obtain ⟨ao, c, e, hc, _⟩ := ownsRow_slice (h.row hv)
  rw [e] at hv
  obtain ⟨T, ho, _⟩ := h.own
  have e3 : dA H ds dn vs 3 = some (H + 2, 45, vs) := by simp [dA]
  exact ⟨ao, c, hv, hc, ho.at e3 hv, ho.frozen e3 i⟩
theorem DM.entry (h : DM w H ds dn vs B wr) {i j c x : Nat} {ao : Option Addr} (hv : vs[i]? = some (.slice ao (B.getD i []).length c)) (hj : (B.getD i [])[j]? = some x) : ∃ g, ao = some ⟨g, 0, none⟩ ∧ wr.cell? ⟨g, j, none⟩ = some (.int .i32 (x : Int)) := by
  have hl := (List.getElem?_eq_some_iff.1 hj).1
  obtain ⟨T, ho, _⟩ := h.own
  obtain ⟨g, c', e, _, _⟩ := ho.rform (dR_row B hv) (by omega)
  cases e
  refine ⟨g, rfl, ?_⟩
  rw [ho.rcell (dR_row B hv) (by omega)]
  unfold bkt
  rw [List.getElem?_map, hj]; rfl
theorem DM.ne (h : DM w H ds dn vs B wr) {i : Nat} {va : Value} (hv : vs[i]? = some va) : va.ownBlock ≠ some (H + 2) := by
  obtain ⟨T, ho, _⟩ := h.own
  have e3 : dA H ds dn vs 3 = some (H + 2, 45, vs) := by simp [dA]
  exact ho.row_ne (dR_row B hv) e3 (by omega)
theorem DM.draws (h : DM w H ds dn vs B wr) (n : Nat) : DM w H ds dn vs B (wr.drewN n) := by
  obtain ⟨T, ho, hl⟩ := h.own
  exact ⟨⟨h.k.os, h.k.tape, h.k.output, h.k.size, h.k.block⟩, h.hl, h.vl, T, ⟨ho.arr, ho.row, ho.new⟩, hl⟩
theorem DM.drew (h : DM w H ds dn vs B wr) : DM w H ds dn vs B wr.drew := by
  obtain ⟨T, ho, hl⟩ := h.own
  exact ⟨h.k.drew, h.hl, h.vl, T, ho.drew, hl⟩
theorem DM.setD (h : DM w H ds dn vs B wr) (i : Nat) (x : Int) : DM w H (ds.set i x) dn vs B (wr.setCell ⟨H, i, none⟩ (.int .i32 x)) := by
  obtain ⟨T, ho, hl⟩ := h.own
  refine ⟨h.k.setCell (p := ⟨H, i, none⟩) (fun _ => Nat.le_refl _) _, by rw [World.size_setCell]; exact h.hl, h.vl, T, ?_, hl⟩
  have e : dA H ds dn vs 1 = some (H, 21, ds.map (.int .i32)) := by simp [dA]
  refine (ho.set e (dR_low _ _ (by omega)) i (.int .i32 x)).congr (fun t => ?_) (fun _ => rfl)
  by_cases h1 : t = 1
  · subst h1; rw [Lay.upd_same]; simp [dA, List.map_set]
  · rw [Lay.upd_ne _ _ h1]; unfold dA; rw [if_neg h1, if_neg h1]
theorem DM.setN (h : DM w H ds dn vs B wr) (i : Nat) (x : Bool) : DM w H ds (dn.set i x) vs B (wr.setCell ⟨H + 1, i, none⟩ (.bool x)) := by
  obtain ⟨T, ho, hl⟩ := h.own
  refine ⟨h.k.setCell (p := ⟨H + 1, i, none⟩) (fun _ => Nat.le_succ _) _, by rw [World.size_setCell]; exact h.hl, h.vl, T, ?_, hl⟩
  have e : dA H ds dn vs 2 = some (H + 1, 4, dn.map .bool) := by simp [dA]
  refine (ho.set e (dR_low _ _ (by omega)) i (.bool x)).congr (fun t => ?_) (fun _ => rfl)
  by_cases h1 : t = 2
  · subst h1; rw [Lay.upd_same]; simp [dA, List.map_set]
  · rw [Lay.upd_ne _ _ h1]
    unfold dA
    by_cases h2 : t = 1
    · rw [if_pos h2, if_pos h2]
    · rw [if_neg h2, if_neg h2, if_neg h1, if_neg h1]
/-- bucket[i] = append(bucket[i], y). -/
theorem DM.push {w0 w1 : World} {i gg cap K y : Nat} {va : Value} (h : DM w H ds dn vs B wr) (hv : vs[i]? = some va) (hb : Below wr.heap.size wr w0)
    (hown : w1.ownsRow 0 21 1 (.slice (some ⟨gg, 0, none⟩) ((B.getD i []).length + 1) cap) ((B.getD i []).length + 1) (bkt B i ++ [.int .i32 (y : Int)])) (hgrow : w0.grownBy w1 va.ownBlock) (hat : va.ownBlock = some gg ∨ gg = K) (hK : w0.heap.size = K) (hlt : gg < w1.heap.size) :
    DM w H ds dn (vs.set i (.slice (some ⟨gg, 0, none⟩) ((B.getD i []).length + 1) cap)) (B.set i (B.getD i [] ++ [y])) (w1.setCell ⟨H + 2, i, none⟩ (.slice (some ⟨gg, 0, none⟩) ((B.getD i []).length + 1) cap)) := by
  obtain ⟨T, ho, hl⟩ := h.own
  have hiv : i < vs.length := (List.getElem?_eq_some_iff.1 hv).1
  have hiB : i < B.length := by rw [← h.vl]; exact hiv
  have htag := (ho.row _ _ _ _ _ _ (dR_row B hv)).2
  have p1 := ho.push (dR_row B hv) (dA_row H ds dn vs i) hb hown hgrow hat hK hlt
  have hk1 : Kept (fun b => H ≤ b) w w1 := by
    refine (h.k.trans (M' := fun _ => False) ((Kept.refl _ _).of_below hb) (fun _ _ h => h.elim)).grown hgrow (fun k _ ek => ?_)
    have := htag k ek
    exact hl k (by omega)
  have e3 : dA H ds dn vs 3 = some (H + 2, 45, vs) := by simp [dA]
  have p2 := p1.set (t := 3) e3 (by rw [Gro.upd_ne _ _ (by omega)]; exact dR_low _ _ (by omega)) i (.slice (some ⟨gg, 0, none⟩) ((B.getD i []).length + 1) cap)
  refine ⟨hk1.setCell (p := ⟨H + 2, i, none⟩) (fun _ => Nat.le_add_right _ _) _, ?_, by rw [List.length_set, List.length_set]; exact h.vl, retag T gg (100 + i), p2.congr (fun t => ?_) (fun t => ?_), fun b hb' => ?_⟩
  · rw [World.size_setCell]
    have h1 := hgrow.size
    have h2 := hb.size
    have h3 := h.hl
    omega
  · by_cases h3 : t = 3
    · subst h3; rw [Lay.upd_same]; simp [dA]
    · rw [Lay.upd_ne _ _ h3]
      unfold dA
      by_cases h1 : t = 1
      · rw [if_pos h1, if_pos h1]
      · rw [if_neg h1, if_neg h1]
        by_cases h2 : t = 2
        · rw [if_pos h2, if_pos h2]
        · rw [if_neg h2, if_neg h2, if_neg h3, if_neg h3]
  · by_cases h3 : t = 100 + i
    · subst h3
      rw [Gro.upd_same, dR_row (B := B.set i (B.getD i [] ++ [y])) (v := .slice (some ⟨gg, 0, none⟩) ((B.getD i []).length + 1) cap) (by rw [List.getElem?_set_self hiv])]
      unfold bkt
      rw [getD_setL hiB, if_pos rfl]
      simp
    · rw [Gro.upd_ne _ _ h3]
      unfold dR bkt
      rw [List.length_set]
      split
      · rename_i hh
        have hne : t - 100 ≠ i := by omega
        rw [getD_setL hiB, if_neg hne, List.getD_eq_getElem?_getD, List.getElem?_set_ne (Ne.symm hne), ← List.getD_eq_getElem?_getD]
      · rfl
  · unfold retag at hb'
    split at hb'
    · rename_i e
      subst e
      rcases hat with ha | ha
      · have := htag b ha
        exact hl b (by omega)
      · have h2 := hb.size
        have h3 := h.hl
        omega
    · exact hl b hb'
end
theorem ZL.costs {wr : World} {T : Nat → Nat} {Z F V : Nat} {ps : List Pr} {l : List Arc} (h : ZL wr T Z F V ps l) (hp : 0 < l.length) : ∃ g5 c5, wr.cell? ⟨Z, 5, none⟩ = some (.slice (some ⟨g5, 0, none⟩) l.length c5) ∧ ∀ e, e < l.length → wr.cell? ⟨g5, e, none⟩ = some (.int .i32 (costAt l e)) := by
  obtain ⟨z, h1, h2⟩ := h
  have e5 : (z.rl 5).length = l.length := by rw [h2.r5]; simp
  obtain ⟨g5, c5, v5⟩ := h1.rform (f := 5) (by omega) (by omega)
  refine ⟨g5, c5, by rw [← h2.Z, ← e5, ← v5]; exact h1.f rfl, fun e he => ?_⟩
  refine h1.rc (f := 5) (by omega) v5 rfl ?_
  rw [h2.r5, costAt_get he]; simp [he]
def ChR (w : World) (H V s t : Nat) (l : List Arc) (M : Nat → Int) (e : Ending) (w' : World) : Prop := ∃ ds : List Int, e = .returned (.int .i64 (if lbA ds t = 1073741824 then -1 else lbA ds t)) ∧ Dend V s l M ds ∧ Kept (fun b => H ≤ b) w w'
end Go.Proofs.Qxb6605292a
