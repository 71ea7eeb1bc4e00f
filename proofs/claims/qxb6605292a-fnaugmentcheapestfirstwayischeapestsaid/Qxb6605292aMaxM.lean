/-
  zzMaxFlow's memory: the network, two rows of fixed size behind it, the stack.
-/
import Derived.Test.Qxb6605292aDfs
namespace Go.Proofs.Qxb6605292a
open Go.RowKit

/-- The network with arcs l. -/
def ZL (wr : World) (T : Nat → Nat) (Z F V : Nat) (ps : List Pr) (l : List Arc) : Prop := ∃ z, ZAt wr T z ∧ Zs z Z F V (firstL V ps) (nextL ps) (l.map Arc.to) (l.map Arc.room) (l.map Arc.cost)
/-- The stack's slice: a block of its own, from H + 2 on. -/
def Stk (wr : World) (H : Nat) (vs : Value) (st : List Nat) : Prop := ∃ g c, vs = .slice (some ⟨g, 0, none⟩) st.length c ∧ H + 2 ≤ g ∧ wr.ownsRow 0 21 1 vs st.length (st.map fun x : Nat => Value.int .i32 (x : Int))
structure MI (w : World) (T : Nat → Nat) (H Z F V : Nat) (ps : List Pr) (l : List Arc) (mk vi : List Int) (vs : Value) (st : List Nat) (wr : World) : Prop where
  z : ZL wr T Z F V ps l
  low : ∀ b, T b ≠ 0 → b < H
  m : Rw wr H 21 (mk.map (.int .i32))
  v : Rw wr (H + 1) 21 (vi.map (.int .i32))
  s : Stk wr H vs st
  k : Kept (fun b => T b ≠ 0 ∨ H ≤ b) w wr
theorem ZV.A_zero (z : ZV) : ∀ t x, z.A t = some x → t ≠ 0 := by intro t x h e; subst e; simp [ZV.A] at h
theorem ZV.R_zero (z : ZV) : ∀ t x, z.R t = some x → t ≠ 0 := by intro t x h e; subst e; simp [ZV.R] at h
theorem ZL.kept {M : Nat → Prop} {wr w' : World} {T : Nat → Nat} {Z F V : Nat} {ps : List Pr} {l : List Arc} (h : ZL wr T Z F V ps l) (hk : Kept M wr w') (hm : ∀ b, T b ≠ 0 → ¬ M b) : ZL w' T Z F V ps l := by
  obtain ⟨z, h1, h2⟩ := h
  exact ⟨z, ⟨h1.own.kept hk hm z.A_zero z.R_zero, h1.flen⟩, h2⟩
section
variable {w wr w' : World} {T : Nat → Nat} {H Z F V : Nat} {ps : List Pr} {l : List Arc} {mk vi : List Int} {vs : Value} {st : List Nat}
theorem Stk.kept {M : Nat → Prop} (h : Stk wr H vs st) (hk : Kept M wr w') (hm : ∀ g, H + 2 ≤ g → ¬ M g) : Stk w' H vs st := by
  obtain ⟨g, c, e, h1, h2⟩ := h
  exact ⟨g, c, e, h1, ownsRow_kept h2 hk (fun g' hg' => by rw [e] at hg'; simp [Value.ownBlock] at hg'; subst hg'; exact hm g h1)⟩
theorem MI.draws (h : MI w T H Z F V ps l mk vi vs st wr) (q : Nat) : MI w T H Z F V ps l mk vi vs st (wr.drewN q) := by
  have hk : Kept (fun _ => False) wr (wr.drewN q) := ⟨rfl, rfl, rfl, Nat.le_refl _, fun _ _ _ => rfl⟩
  exact ⟨h.z.kept hk (fun _ _ h => h), h.low, h.m, h.v, h.s.kept hk (fun _ _ h => h), ⟨h.k.os, h.k.tape, h.k.output, h.k.size, h.k.block⟩⟩
theorem MI.drew (h : MI w T H Z F V ps l mk vi vs st wr) : MI w T H Z F V ps l mk vi vs st wr.drew := by
  have hk : Kept (fun _ => False) wr wr.drew := (Kept.refl _ _).drew
  exact ⟨h.z.kept hk (fun _ _ h => h), h.low, h.m, h.v, h.s.kept hk (fun _ _ h => h), h.k.drew⟩
theorem MI.setMark (h : MI w T H Z F V ps l mk vi vs st wr) (i : Nat) (x : Int) : MI w T H Z F V ps l (mk.set i x) vi vs st (wr.setCell ⟨H, i, none⟩ (.int .i32 x)) := by
  have hk : Kept (fun b => b = H) wr (wr.setCell ⟨H, i, none⟩ (.int .i32 x)) := (Kept.refl (fun b => b = H) wr).setCell (p := ⟨H, i, none⟩) (fun _ => rfl) _
  exact ⟨h.z.kept hk (fun b hb e => by have := h.low b hb; omega), h.low, by rw [List.map_set]; exact h.m.set i _, h.v.set_ne (p := ⟨H, i, none⟩) (by show H + 1 ≠ H; omega) _, h.s.kept hk (fun g hg e => by omega), h.k.setCell (p := ⟨H, i, none⟩) (fun _ => .inr (Nat.le_refl _)) _⟩
theorem MI.setVia (h : MI w T H Z F V ps l mk vi vs st wr) (i : Nat) (x : Int) : MI w T H Z F V ps l mk (vi.set i x) vs st (wr.setCell ⟨H + 1, i, none⟩ (.int .i32 x)) := by
  have hk : Kept (fun b => b = H + 1) wr (wr.setCell ⟨H + 1, i, none⟩ (.int .i32 x)) := (Kept.refl (fun b => b = H + 1) wr).setCell (p := ⟨H + 1, i, none⟩) (fun _ => rfl) _
  exact ⟨h.z.kept hk (fun b hb e => by have := h.low b hb; omega), h.low, h.m.set_ne (p := ⟨H + 1, i, none⟩) (by show H ≠ H + 1; omega) _, by rw [List.map_set]; exact h.v.set i _, h.s.kept hk (fun g hg e => by omega), h.k.setCell (p := ⟨H + 1, i, none⟩) (fun _ => .inr (by show H ≤ H + 1; omega)) _⟩
/-- stack = append(stack, y). -/
theorem MI.push {w0 w1 : World} {gg cap K y : Nat} (h : MI w T H Z F V ps l mk vi vs st wr) (hb : Below wr.heap.size wr w0)
    (hown : w1.ownsRow 0 21 1 (.slice (some ⟨gg, 0, none⟩) (st.length + 1) cap) (st.length + 1) ((st.map fun x : Nat => Value.int .i32 (x : Int)) ++ [.int .i32 (y : Int)])) (hgrow : w0.grownBy w1 vs.ownBlock) (hat : vs.ownBlock = some gg ∨ gg = K) (hK : w0.heap.size = K) :
    MI w T H Z F V ps l mk vi (.slice (some ⟨gg, 0, none⟩) (st.length + 1) cap) (st ++ [y]) w1 := by
  obtain ⟨g, c, e, h1, h2⟩ := h.s
  have hob : vs.ownBlock = some g := by rw [e]; rfl
  have hlv := h.v.lt
  have hk : Kept (fun b => b = g) wr w1 := ((Kept.refl (fun b => b = g) wr).of_below hb).grown hgrow (fun k _ ek => by rw [hob] at ek; injection ek with ek; exact ek.symm)
  refine ⟨h.z.kept hk (fun b hb' eb => by have := h.low b hb'; omega), h.low, h.m.kept hk (by omega), h.v.kept hk (by omega), ⟨gg, cap, by simp, ?_, by simpa using hown⟩, h.k.trans hk (fun i _ hi => .inr (by omega))⟩
  rcases hat with ha | ha
  · rw [hob] at ha; injection ha with ha; omega
  · have := hb.size; omega
theorem Stk.form (h : Stk wr H vs st) : ∃ g c, vs = .slice (some ⟨g, 0, none⟩) st.length c ∧ st.length ≤ c := by
  obtain ⟨g, c, e, h1, h2⟩ := h
  obtain ⟨ao, c', e', h3, _⟩ := ownsRow_slice h2
  rw [e] at e'
  cases e'
  exact ⟨g, c, e, h3⟩
/-- stack[:k]. -/
theorem MI.cut (h : MI w T H Z F V ps l mk vi vs st wr) {g c k : Nat} (hv : vs = .slice (some ⟨g, 0, none⟩) st.length c) (hk : k ≤ st.length) : MI w T H Z F V ps l mk vi (.slice (some ⟨g, 0, none⟩) k c) (st.take k) wr := by
  obtain ⟨g', c', e, h1, h2⟩ := h.s
  rw [hv] at e
  cases e
  have hl : (st.take k).length = k := by rw [List.length_take]; omega
  refine ⟨h.z, h.low, h.m, h.v, ⟨g, c, by rw [hl], h1, ?_⟩, h.k⟩
  rw [hl]
  rcases h2.2 with ⟨e1, _⟩ | ⟨g2, c2, cur, e1, b1, b2, b3, b4, b5, b6⟩
  · rw [hv] at e1; cases e1
  · rw [hv] at e1
    cases e1
    refine ⟨by simp; omega, .inr ⟨g, c, cur, rfl, b1, b2, by omega, b4, b5, ?_⟩⟩
    have : cur.toList.take (k * 1) = (cur.toList.take (st.length * 1)).take (k * 1) := by rw [List.take_take]; congr 1; omega
    rw [this, b6, Nat.mul_one, List.map_take]
theorem Stk.cell (h : Stk wr H vs st) {g c j x : Nat} (hv : vs = .slice (some ⟨g, 0, none⟩) st.length c) (hj : st[j]? = some x) : wr.cell? ⟨g, j, none⟩ = some (.int .i32 (x : Int)) := by
  obtain ⟨g', c', e, h1, h2⟩ := h
  rw [hv] at e
  cases e
  have hl := (List.getElem?_eq_some_iff.1 hj).1
  rcases h2.2 with ⟨e1, _⟩ | ⟨g2, c2, cur, e1, b1, b2, b3, b4, b5, b6⟩
  · rw [hv] at e1; cases e1
  · rw [hv] at e1
    cases e1
    have hr : Rw wr g 21 cur.toList := by unfold Rw; rw [b2, Array.toArray_toList]
    rw [hr.cell]
    have e2 : (cur.toList.take (st.length * 1))[j]? = cur.toList[j]? := List.getElem?_take_of_lt (by omega)
    rw [← e2, b6, List.getElem?_map, hj]; rfl
/-- What is read of the network. -/
theorem ZL.get (h : ZL wr T Z F V ps l) : wr.cell? ⟨Z, 0, none⟩ = some (.int .i64 V) ∧ wr.cell? ⟨Z, 1, none⟩ = some (.slice (some ⟨F, 0, none⟩) V V) ∧ (∀ x, x < V → wr.cell? ⟨F, x, none⟩ = some (.int .i32 (lastB ps x (2 * ps.length)))) := by
  obtain ⟨z, h1, h2⟩ := h
  refine ⟨by rw [← h2.Z, ← h2.V]; exact h1.f rfl, by rw [← h2.Z, ← h2.F, ← h2.V]; exact h1.f rfl, fun x hx => ?_⟩
  rw [← h2.F]
  exact h1.fc (by rw [h2.fs]; exact firstL_get _ _ hx)
theorem ZL.rows (h : ZL wr T Z F V ps l) (hl : l.length = 2 * ps.length) (hp : 0 < l.length) : ∃ g2 c2 g3 c3 g4 c4, wr.cell? ⟨Z, 2, none⟩ = some (.slice (some ⟨g2, 0, none⟩) l.length c2) ∧ wr.cell? ⟨Z, 3, none⟩ = some (.slice (some ⟨g3, 0, none⟩) l.length c3) ∧ wr.cell? ⟨Z, 4, none⟩ = some (.slice (some ⟨g4, 0, none⟩) l.length c4) ∧
    (∀ e, e < l.length → wr.cell? ⟨g2, e, none⟩ = some (.int .i32 (lastB ps (tailOf ps e) e))) ∧ (∀ e, e < l.length → wr.cell? ⟨g3, e, none⟩ = some (.int .i32 (toAt l e))) ∧ (∀ e, e < l.length → wr.cell? ⟨g4, e, none⟩ = some (.int .i32 (roomAt l e))) ∧
    (∀ e, wr.frozen? ⟨g4, e, none⟩ = false) ∧ T g4 = 4 ∧ (∀ e r, e < l.length → ZL (wr.setCell ⟨g4, e, none⟩ (.int .i32 r)) T Z F V ps (setRm l e r) ∧ (setRm l e r).length = l.length) := by
  obtain ⟨z, h1, h2⟩ := h
  have e2 : (z.rl 2).length = l.length := by rw [h2.r2, nextL_len]; omega
  have e3 : (z.rl 3).length = l.length := by rw [h2.r3]; simp
  have e4 : (z.rl 4).length = l.length := by rw [h2.r4]; simp
  obtain ⟨g2, c2, v2⟩ := h1.rform (f := 2) (by omega) (by omega)
  obtain ⟨g3, c3, v3⟩ := h1.rform (f := 3) (by omega) (by omega)
  obtain ⟨g4, c4, v4⟩ := h1.rform (f := 4) (by omega) (by omega)
  have hr4 := z.R_at (f := 4) (by omega)
  rw [v4] at hr4
  refine ⟨g2, c2, g3, c3, g4, c4, by rw [← h2.Z, ← e2, ← v2]; exact h1.f rfl, by rw [← h2.Z, ← e3, ← v3]; exact h1.f rfl, by rw [← h2.Z, ← e4, ← v4]; exact h1.f rfl, fun e he => ?_, fun e he => ?_, fun e he => ?_, fun e => h1.own.rfrozen hr4 e, (h1.own.row _ _ _ _ _ _ hr4).2 g4 rfl, fun e r he => ⟨?_, setRm_len _ _ _⟩⟩
  · exact h1.rc (f := 2) (by omega) v2 rfl (by rw [h2.r2]; exact nextL_get ps (by omega))
  · refine h1.rc (f := 3) (by omega) v3 rfl ?_
    rw [h2.r3, toAt_get he]; simp [he]
  · refine h1.rc (f := 4) (by omega) v4 rfl ?_
    rw [h2.r4, roomAt_get he]; simp [he]
  · have p := h1.own.rset hr4 (z.A_no (by omega)) e (.int .i32 r)
    have em : ∀ {β : Type} (f : Arc → β), (∀ (x : Arc), f { x with room := r } = f x) → (setRm l e r).map f = l.map f := by
      intro β f hf
      apply List.ext_getElem?
      intro j
      rw [List.getElem?_map, List.getElem?_map]
      unfold setRm
      rw [List.getElem?_modify]
      cases l[j]? with
      | none => rfl
      | some x => by_cases ej : e = j <;> simp [ej, hf]
    have em4 : (setRm l e r).map Arc.room = (l.map Arc.room).set e r := by
      apply List.ext_getElem?
      intro j
      rw [List.getElem?_map]
      unfold setRm
      rw [List.getElem?_modify]
      by_cases ej : e = j
      · subst ej
        rw [List.getElem?_set_self (by simpa using he), List.getElem?_eq_getElem he]
        simp
      · rw [List.getElem?_set_ne ej, List.getElem?_map]
        cases l[j]? <;> simp [ej]
    refine ⟨z.put 4 (z.rv 4) ((z.rl 4).set e r), ⟨p.congr (fun t => ?_) (fun t => ?_), h1.flen⟩, ⟨h2.Z, h2.F, h2.V, h2.fs, by simp [ZV.put, h2.r2], ?_, ?_, ?_⟩⟩
    · by_cases h3 : t = 1
      · subst h3
        rw [ZV.A_one, ZV.A_one]
        simp [ZV.put, ZV.fields]
      · simp only [ZV.A, if_neg h3]; rfl
    · by_cases h3 : t = 4
      · subst h3
        rw [Gro.upd_same, ZV.R_at _ (by omega)]
        simp [ZV.put, v4, List.map_set]
      · rw [Gro.upd_ne _ _ h3]; simp [ZV.R, ZV.put, h3]
    · rw [em Arc.to (fun _ => rfl)]; simp [ZV.put, h2.r3]
    · rw [em4]; simp [ZV.put, h2.r4]
    · rw [em Arc.cost (fun _ => rfl)]; simp [ZV.put, h2.r5]
theorem MI.setCap (h : MI w T H Z F V ps l mk vi vs st wr) {g4 e : Nat} {r : Int} {l' : List Arc} (ht : T g4 = 4) (hz : ZL (wr.setCell ⟨g4, e, none⟩ (.int .i32 r)) T Z F V ps l') : MI w T H Z F V ps l' mk vi vs st (wr.setCell ⟨g4, e, none⟩ (.int .i32 r)) := by
  have hlow := h.low g4 (by omega)
  have hk : Kept (fun b => b = g4) wr (wr.setCell ⟨g4, e, none⟩ (.int .i32 r)) := (Kept.refl (fun b => b = g4) wr).setCell (p := ⟨g4, e, none⟩) (fun _ => rfl) _
  exact ⟨hz, h.low, h.m.set_ne (p := ⟨g4, e, none⟩) (by show H ≠ g4; omega) _, h.v.set_ne (p := ⟨g4, e, none⟩) (by show H + 1 ≠ g4; omega) _, h.s.kept hk (fun g hg e => by omega), h.k.setCell (p := ⟨g4, e, none⟩) (fun _ => .inl (by show T g4 ≠ 0; omega)) _⟩
end
end Go.Proofs.Qxb6605292a
