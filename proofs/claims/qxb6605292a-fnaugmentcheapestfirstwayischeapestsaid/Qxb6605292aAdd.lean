/-
  zzAdd (f53).
-/
import Derived.Test.Qxb6605292aZnet
import Derived.Test.Qxb6605292aAllow
import Derived.Test.Qxb6605292aReg
import Derived.Deep.RegionHeld3
namespace Go.Proofs.Qxb6605292a
open Go.RowKit

theorem hid_of {p : Prop} (h : p) : Hid p := h
/-- What a network holds, by its parts. -/
structure Zs (z : ZV) (Z F V : Nat) (fs l2 l3 l4 l5 : List Int) : Prop where
  Z : z.Z = Z
  F : z.F = F
  V : z.V = V
  fs : z.first = fs
  r2 : z.rl 2 = l2
  r3 : z.rl 3 = l3
  r4 : z.rl 4 = l4
  r5 : z.rl 5 = l5
section
variable {z : ZV} {Z F V : Nat} {fs l2 l3 l4 l5 : List Int}
theorem Zs.put2 (h : Zs z Z F V fs l2 l3 l4 l5) (v : Value) (x : Int) : Zs (z.put 2 v (z.rl 2 ++ [x])) Z F V fs (l2 ++ [x]) l3 l4 l5 := ⟨h.Z, h.F, h.V, h.fs, by simp [ZV.put, h.r2], by simp [ZV.put, h.r3], by simp [ZV.put, h.r4], by simp [ZV.put, h.r5]⟩
theorem Zs.put3 (h : Zs z Z F V fs l2 l3 l4 l5) (v : Value) (x : Int) : Zs (z.put 3 v (z.rl 3 ++ [x])) Z F V fs l2 (l3 ++ [x]) l4 l5 := ⟨h.Z, h.F, h.V, h.fs, by simp [ZV.put, h.r2], by simp [ZV.put, h.r3], by simp [ZV.put, h.r4], by simp [ZV.put, h.r5]⟩
theorem Zs.put4 (h : Zs z Z F V fs l2 l3 l4 l5) (v : Value) (x : Int) : Zs (z.put 4 v (z.rl 4 ++ [x])) Z F V fs l2 l3 (l4 ++ [x]) l5 := ⟨h.Z, h.F, h.V, h.fs, by simp [ZV.put, h.r2], by simp [ZV.put, h.r3], by simp [ZV.put, h.r4], by simp [ZV.put, h.r5]⟩
theorem Zs.put5 (h : Zs z Z F V fs l2 l3 l4 l5) (v : Value) (x : Int) : Zs (z.put 5 v (z.rl 5 ++ [x])) Z F V fs l2 l3 l4 (l5 ++ [x]) := ⟨h.Z, h.F, h.V, h.fs, by simp [ZV.put, h.r2], by simp [ZV.put, h.r3], by simp [ZV.put, h.r4], by simp [ZV.put, h.r5]⟩
theorem Zs.set (h : Zs z Z F V fs l2 l3 l4 l5) (i : Nat) (x : Int) : Zs (z.setFirst i x) Z F V (fs.set i x) l2 l3 l4 l5 := ⟨h.Z, h.F, h.V, by simp [ZV.setFirst, h.fs], h.r2, h.r3, h.r4, h.r5⟩
end
/-- A network in memory. -/
def ZN (w : World) (T : Nat → Nat) (wr : World) (Z F V : Nat) (fs l2 l3 l4 l5 : List Int) : Prop := ∃ T' z, ZAt wr T' z ∧ Step finT w T wr T' ∧ Zs z Z F V fs l2 l3 l4 l5
def AddR (w : World) (T : Nat → Nat) (Z F V : Nat) (fs l2 l3 l4 l5 : List Int) (e : Ending) (w' : World) : Prop := e = .returned (.tuple #[]) ∧ ZN w T w' Z F V fs l2 l3 l4 l5

set_option maxRecDepth 100000 in
set_option maxHeartbeats 4000000 in
theorem add_any {w : World} {T : Nat → Nat} {z : ZV} {Z F V m n sink : Nat} {fs l2 l3 l4 l5 : List Int} {blk : Option (List Bool)} {vb : Value} (h : ZAt w T z) (hz : Zs z Z F V fs l2 l3 l4 l5) (a b : Nat) (c x fa fb : Int) (h2 : l2.length = m) (h3 : l3.length = m) (h4 : l4.length = m) (h5 : l5.length = m)
    (hm : m ≤ 1000000) (ha : a < V) (hb : b < V) (hfa : fs[a]? = some fa) (hfb : (fs.set a (m : Int))[b]? = some fb) (hx0 : 0 ≤ x) (hx1 : x ≤ 1)
    (hbl : BlkV w vb n blk) (hn : n ≤ 256) (hs : sink < 2 * n) (hVn : V = 2 * n + 1) (aa : allowB n sink blk a = true) (ab : allowB n sink blk b = true) :
    Calls Try.prog 53 #[.pointer (some ⟨Z, 0, none⟩), .int .i64 n, .int .i64 sink, vb, .int .i64 a, .int .i64 b, .int .i32 c, .int .i32 x] w fun e w' => AddR w T Z F V ((fs.set a (m : Int)).set b ((m : Int) + 1)) (l2 ++ [fa] ++ [fb]) (l3 ++ [(b : Int)] ++ [(a : Int)]) (l4 ++ [c] ++ [0]) (l5 ++ [x] ++ [-x]) e w' := by
  obtain ⟨i0, hi0, hz0, hz1, hz2⟩ := info_parts Try.info21
  have hwm : IntKind.i32.wrap (m : Int) = m := wrap32_nat (by omega)
  have hwm1 : IntKind.i32.wrap ((m + 1 : Nat) : Int) = ((m + 1 : Nat) : Int) := wrap32_nat (by omega)
  have hwm2 : IntKind.i32.wrap ((m : Int) + 1) = (m : Int) + 1 := wrap_i32_in (by omega) (by omega)
  have hwa : IntKind.i32.wrap (a : Int) = a := wrap32_nat (by omega)
  have hwb : IntKind.i32.wrap (b : Int) = b := wrap32_nat (by omega)
  have hwx : IntKind.i32.wrap (-x) = -x := wrap_i32_in (by omega) (by omega)
  have HBL : Hid (BlkV w vb n blk) := hbl
  have HAA : Hid (allowB n sink blk a = true) := aa
  have HAB : Hid (allowB n sink blk b = true) := ab
  have L2 : Hid (l2.length = m) := h2
  have L3 : Hid (l3.length = m) := h3
  have L4 : Hid (l4.length = m) := h4
  have L5 : Hid (l5.length = m) := h5
  have HFA : Hid (fs[a]? = some fa) := hfa
  have HFB : Hid ((fs.set a (m : Int))[b]? = some fb) := hfb
  have HVN : Hid (V = 2 * n + 1) := hVn
  obtain ⟨ao, bn, bc, rfl⟩ := hbl.form
  obtain ⟨z0, hz0'⟩ : ∃ z0, z = z0 := ⟨_, rfl⟩
  subst hz0'
  have Y0 : Hid (ZAt w T z) := h
  have S0 : Hid (Step finT w T w T) := Step.refl _ _ _
  have Q0 : Hid (Zs z Z F V fs l2 l3 l4 l5) := hz
  have han : a < 2 * n + 1 := by omega
  have hbn : b < 2 * n + 1 := by omega
  clear h hz h2 h3 h4 h5 hfa hfb hVn aa ab hbl
  go_enter Try.func53, Try.ntmps53
  go_wp2_with fail
  refine (allowed_any a n sink blk _ w HBL.out han hn hs).mono ?_
  rw [HAA.out]
  rintro e w' ⟨rfl, rfl⟩
  go_wp2_with fail
  refine (allowed_any b n sink blk _ w' HBL.out hbn hn hs).mono ?_
  rw [HAB.out]
  rintro e w0 ⟨rfl, rfl⟩
  obtain ⟨T0, hT0⟩ : ∃ T0, T = T0 := ⟨_, rfl⟩
  have Y0' : Hid (ZAt w0 T0 z) := by rw [← hT0]; exact Y0
  have S0' : Hid (Step finT w0 T w0 T0) := by rw [← hT0]; exact S0
  clear Y0 S0 hT0 HBL HAA HAB
  obtain ⟨z0, hzz⟩ : ∃ z0, z = z0 := ⟨_, rfl⟩
  rw [hzz] at Y0' Q0
  clear hzz

  obtain ⟨ao0, cp0, hv0⟩ := Y0'.out.rowV (f := 2) (by omega)
  have ln0 : (z0.rl 2).length = m := by rw [Q0.out.r2]; simp [L2.out]
  rw [ln0] at hv0
  have ra0 : w0.ownsRow 0 21 1 (.slice ao0 (m) cp0) (m) ((z0.rl 2).map (.int .i32)) := by have h := Y0'.out.row (f := 2) (by omega); rw [hv0, ln0] at h; exact h
  have cf0 : w0.cell? ⟨Z, 2, none⟩ = some (.slice ao0 (m) cp0) := by rw [← Q0.out.Z, ← hv0]; exact Y0'.out.f rfl
  have ff0 : w0.frozen? ⟨Z, 2, none⟩ = false := by rw [← Q0.out.Z]; exact Y0'.out.ff 2
  have ne0 : (Value.slice ao0 (m) cp0).ownBlock ≠ some Z := by rw [← Q0.out.Z, ← hv0]; exact Y0'.out.neZ (by omega)
  have c10 : w0.cell? ⟨Z, 1, none⟩ = some (.slice (some ⟨F, 0, none⟩) V V) := by rw [← Q0.out.Z, ← Q0.out.F, ← Q0.out.V]; exact Y0'.out.f rfl
  have cn0 : w0.cell? ⟨F, a, none⟩ = some (.int .i32 fa) := by rw [← Q0.out.F]; exact Y0'.out.fc (by rw [Q0.out.fs]; exact HFA.out)
  have nf0 : (Value.slice ao0 (m) cp0).ownBlock ≠ some F := by rw [← Q0.out.F, ← hv0]; exact Y0'.out.neF (by omega)
  go_upto_region 1 with fail
  refine wp_region_noPanic ?_
  refine wp_region_T (fun w' => w'.cell? ⟨Z, 2, none⟩ = some (.slice ao0 (m) cp0) ∧ w'.cell? ⟨Z, 1, none⟩ = some (.slice (some ⟨F, 0, none⟩) V V) ∧ w'.cell? ⟨F, a, none⟩ = some (.int .i32 fa))
    [4, 8, 11] [12, 13, 16] [0, 1, 2, 3, 4, 5, 6, 7, 8, 9, 10, 11, 12, 13, 14, 15, 16] (by kernel_rfl) (by kernel_rfl) rfl (by kernel_rfl) (fun _ _ _ _ _ h => h) ⟨cf0, c10, cn0⟩ ?_
  simp only [List.map_cons, List.map_nil, List.getElem?_toArray, List.getElem?_cons_succ, List.getElem?_cons_zero]
  iterate 4
    refine wpT_take (v := ?_) (by rfl) (by rfl) ?_ ?_
    rotate_left 1
    focus (intro w; go_simp; try with_reducible rfl)
    simp only [Act.put, List.setIfInBounds_toArray, List.set_cons_zero, List.set_cons_succ]
  refine wpT_held (v := ?_) (by rfl) (by rfl) (by rfl) ?_ ?_
  rotate_left 1
  focus (rintro w ⟨s1, s2, s3⟩; go_simp; try with_reducible rfl)
  simp only [Act.put, List.setIfInBounds_toArray, List.set_cons_zero, List.set_cons_succ]
  iterate 3
    refine wpT_take (v := ?_) (by rfl) (by rfl) ?_ ?_
    rotate_left 1
    focus (intro w; go_simp; try with_reducible rfl)
    simp only [Act.put, List.setIfInBounds_toArray, List.set_cons_zero, List.set_cons_succ]
  refine wpT_held (v := ?_) (by rfl) (by rfl) (by rfl) ?_ ?_
  rotate_left 1
  focus (rintro w ⟨s1, s2, s3⟩; go_simp; try with_reducible rfl)
  simp only [Act.put, List.setIfInBounds_toArray, List.set_cons_zero, List.set_cons_succ]
  iterate 2
    refine wpT_take (v := ?_) (by rfl) (by rfl) ?_ ?_
    rotate_left 1
    focus (intro w; go_simp; try with_reducible rfl)
    simp only [Act.put, List.setIfInBounds_toArray, List.set_cons_zero, List.set_cons_succ]
  refine wpT_held (v := ?_) (by rfl) (by rfl) (by rfl) ?_ ?_
  rotate_left 1
  focus (rintro w ⟨s1, s2, s3⟩; go_simp; try with_reducible rfl)
  simp only [Act.put, List.setIfInBounds_toArray, List.set_cons_zero, List.set_cons_succ]
  refine wpT_eff (by rfl) (fun K hK => ?_)
  go_simp
  refine hK _ _ (fun _ => ⟨cell_later (below_laid_drew w0 _) cf0, cell_later (below_laid_drew w0 _) c10, cell_later (below_laid_drew w0 _) cn0⟩) ?_
  clear hK K
  try simp only [Act.put, List.setIfInBounds_toArray, List.set_cons_zero, List.set_cons_succ]
  refine wpT_eff (by rfl) (fun K hK => ?_)
  refine wp_append_lies _ _ _ _ rfl 0 21 i0 _ 1 4 Try.underlying45 hi0 hz0 hz1 hz2 rfl (by omega) (.slice ao0 (m) cp0) (m) ((z0.rl 2).map (.int .i32)) rfl ((ra0.alloc _).drew) ⟨w0.heap.size, 0, none⟩ 1 1 [.int .i32 fa] rfl rfl (World.news_of_block (cs := #[.int .i32 fa]) (t := 21) (fr := (0, 0)) (heap_alloc_new w0 _)) (by simp [Value.oneCell']) (by omega) (by unfold maxLen; omega) (by omega) (Nat.zero_le _) (w0.heap.size + 1) (by simp) ?_
  intro g0 cap0 x0 hown0 hgrow0 hat0 hlt0
  refine hK _ _ (fun _ => ⟨cell_grown cf0 (below_laid_drew _ _) hgrow0 ne0, cell_grown c10 (below_laid_drew _ _) hgrow0 ne0, cell_grown cn0 (below_laid_drew _ _) hgrow0 nf0⟩) ?_
  clear hK K
  try simp only [Act.put, List.setIfInBounds_toArray, List.set_cons_zero, List.set_cons_succ]
  iterate 2
    refine wpT_take (v := ?_) (by rfl) (by rfl) ?_ ?_
    rotate_left 1
    focus (intro w; go_simp; try with_reducible rfl)
    simp only [Act.put, List.setIfInBounds_toArray, List.set_cons_zero, List.set_cons_succ]
  refine wpT_last (by rfl) (by kernel_rfl) (fun K hK => ?_)
  have hc0 := cell_grown cf0 (below_laid_drew _ _) hgrow0 ne0
  have hf0 := frozen_grown (cell_at cf0) ff0 (below_laid_drew _ _) hgrow0 ne0
  go_simp
  refine hK _ _ ?_
  clear hK K
  try simp only [Act.put, List.setIfInBounds_toArray, List.set_cons_zero, List.set_cons_succ]
  refine wpT_nil ?_
  refine NoPanic.normal ?_
  have y0 := Y0'.out.push (f := 2) (x := fa) (by omega) (below_laid_drew w0 _) (by rw [ln0]; exact hown0) (by rw [hv0]; exact hgrow0) (by rw [hv0]; exact hat0) (by simp) hlt0
  rw [Q0.out.Z, ln0] at y0
  have Q1 := hid_of (Q0.out.put2 (.slice (some ⟨g0, 0, none⟩) (m + 1) cap0) fa)
  have S1 := hid_of (S0'.out.trans y0.2)
  have Y1 := hid_of y0.1
  clear y0 hown0 hgrow0 hat0 hlt0 hc0 hf0 ra0 cf0 ff0 ne0 hv0 ln0 Q0 S0' Y0' c10 cn0 nf0
  generalize x0.setCell ⟨Z, 2, none⟩ (.slice (some ⟨g0, 0, none⟩) (m + 1) cap0) = w1 at *
  generalize retag T0 g0 2 = T1 at *
  generalize z0.put 2 (.slice (some ⟨g0, 0, none⟩) (m + 1) cap0) (z0.rl 2 ++ [fa]) = z1 at *
  obtain ⟨ao1, cp1, hv1⟩ := Y1.out.rowV (f := 3) (by omega)
  have ln1 : (z1.rl 3).length = m := by rw [Q1.out.r3]; simp [L3.out]
  rw [ln1] at hv1
  have cf1 : w1.cell? ⟨Z, 3, none⟩ = some (.slice ao1 (m) cp1) := by rw [← Q1.out.Z, ← hv1]; exact Y1.out.f rfl
  have c11 : w1.cell? ⟨Z, 1, none⟩ = some (.slice (some ⟨F, 0, none⟩) V V) := by rw [← Q1.out.Z, ← Q1.out.F, ← Q1.out.V]; exact Y1.out.f rfl
  obtain ⟨u1, cn1⟩ : ∃ u, w1.cell? ⟨F, a, none⟩ = some u := ⟨_, by rw [← Q1.out.F]; exact Y1.out.fc (List.getElem?_eq_getElem (by rw [Y1.out.flen, Q1.out.V]; omega))⟩
  have cz1 : w1.frozen? ⟨F, a, none⟩ = false := by rw [← Q1.out.F]; exact Y1.out.fcf a
  go_upto_region 2 with fail
  refine wp_region_noPanic ?_
  refine wp_region_T (fun w' => w'.cell? ⟨Z, 3, none⟩ = some (.slice ao1 (m) cp1) ∧ w'.cell? ⟨Z, 1, none⟩ = some (.slice (some ⟨F, 0, none⟩) V V))
    [3, 8] [12] [0, 1, 2, 3, 4, 5, 6, 7, 8, 9, 10, 11, 12] (by kernel_rfl) (by kernel_rfl) rfl (by kernel_rfl) (fun _ _ _ _ _ h => h) ⟨cf1, c11⟩ ?_
  simp only [List.map_cons, List.map_nil, List.getElem?_toArray, List.getElem?_cons_succ, List.getElem?_cons_zero]
  iterate 3
    refine wpT_take (v := ?_) (by rfl) (by rfl) ?_ ?_
    rotate_left 1
    focus (intro w; go_simp; try with_reducible rfl)
    simp only [Act.put, List.setIfInBounds_toArray, List.set_cons_zero, List.set_cons_succ]
  refine wpT_held (v := ?_) (by rfl) (by rfl) (by rfl) ?_ ?_
  rotate_left 1
  focus (rintro w ⟨s1, s2⟩; go_simp; try with_reducible rfl)
  simp only [Act.put, List.setIfInBounds_toArray, List.set_cons_zero, List.set_cons_succ]
  iterate 4
    refine wpT_take (v := ?_) (by rfl) (by rfl) ?_ ?_
    rotate_left 1
    focus (intro w; go_simp; try with_reducible rfl)
    simp only [Act.put, List.setIfInBounds_toArray, List.set_cons_zero, List.set_cons_succ]
  refine wpT_held (v := ?_) (by rfl) (by rfl) (by rfl) ?_ ?_
  rotate_left 1
  focus (rintro w ⟨s1, s2⟩; go_simp; try with_reducible rfl)
  simp only [Act.put, List.setIfInBounds_toArray, List.set_cons_zero, List.set_cons_succ]
  iterate 3
    refine wpT_take (v := ?_) (by rfl) (by rfl) ?_ ?_
    rotate_left 1
    focus (intro w; go_simp; try with_reducible rfl)
    simp only [Act.put, List.setIfInBounds_toArray, List.set_cons_zero, List.set_cons_succ]
  refine wpT_last (by rfl) (by kernel_rfl) (fun K hK => ?_)
  go_simp
  refine hK _ _ ?_
  clear hK K
  try simp only [Act.put, List.setIfInBounds_toArray, List.set_cons_zero, List.set_cons_succ]
  refine wpT_nil ?_
  refine NoPanic.normal ?_
  have yd1 := Y1.out.setFirst a (m : Int)
  rw [Q1.out.F] at yd1
  have Q2 := hid_of (Q1.out.set a (m : Int))
  have S2 := hid_of (S1.out.trans yd1.2).drew
  have Y2 := hid_of (yd1.1.later ((Below.refl _ _).drew))
  clear yd1 cf1 c11 cn1 cz1 hv1 ln1 Q1 S1 Y1
  generalize (w1.setCell ⟨F, a, none⟩ (.int .i32 (m : Int))).drew = w2 at *
  generalize z1.setFirst a (m : Int) = z2 at *
  obtain ⟨T2, hT2⟩ : ∃ T', T1 = T' := ⟨_, rfl⟩
  rw [hT2] at S2 Y2
  clear hT2
  obtain ⟨ao2, cp2, hv2⟩ := Y2.out.rowV (f := 3) (by omega)
  have ln2 : (z2.rl 3).length = m := by rw [Q2.out.r3]; simp [L3.out]
  rw [ln2] at hv2
  have ra2 : w2.ownsRow 0 21 1 (.slice ao2 (m) cp2) (m) ((z2.rl 3).map (.int .i32)) := by have h := Y2.out.row (f := 3) (by omega); rw [hv2, ln2] at h; exact h
  have cf2 : w2.cell? ⟨Z, 3, none⟩ = some (.slice ao2 (m) cp2) := by rw [← Q2.out.Z, ← hv2]; exact Y2.out.f rfl
  have ff2 : w2.frozen? ⟨Z, 3, none⟩ = false := by rw [← Q2.out.Z]; exact Y2.out.ff 3
  have ne2 : (Value.slice ao2 (m) cp2).ownBlock ≠ some Z := by rw [← Q2.out.Z, ← hv2]; exact Y2.out.neZ (by omega)
  go_upto_region 4 with (at_builtin; refine wpList_append_lies _ rfl _ _ _ rfl 0 21 i0 _ 1 4 Try.underlying45 hi0 hz0 hz1 hz2 rfl (by omega) (.slice ao2 (m) cp2) (m) ((z2.rl 3).map (.int .i32)) rfl (ra2.alloc _) ⟨w2.heap.size, 0, none⟩ 1 1 [.int .i32 (b : Int)] rfl rfl (World.news_of_block (cs := #[.int .i32 (b : Int)]) (t := 21) (fr := (0, 0)) (heap_alloc_new w2 _)) (by simp [Value.oneCell']) (by omega) (by unfold maxLen; omega) (by omega) (Nat.zero_le _) (w2.heap.size + 1) (by simp) ?_; intro g2 cap2 x2 hown2 hgrow2 hat2 hlt2; have hc2 := cell_grown cf2 (below_laid _ _) hgrow2 ne2; have hf2 := frozen_grown (cell_at cf2) ff2 (below_laid _ _) hgrow2 ne2)
  have y2 := Y2.out.push (f := 3) (x := (b : Int)) (by omega) (below_laid w2 _) (by rw [ln2]; exact hown2) (by rw [hv2]; exact hgrow2) (by rw [hv2]; exact hat2) (by simp) hlt2
  rw [Q2.out.Z, ln2] at y2
  have Q3 := hid_of (Q2.out.put3 (.slice (some ⟨g2, 0, none⟩) (m + 1) cap2) (b : Int))
  have S3 := hid_of (S2.out.trans y2.2)
  have Y3 := hid_of y2.1
  clear y2 hown2 hgrow2 hat2 hlt2 hc2 hf2 ra2 cf2 ff2 ne2 hv2 ln2 Q2 S2 Y2
  generalize x2.setCell ⟨Z, 3, none⟩ (.slice (some ⟨g2, 0, none⟩) (m + 1) cap2) = w3 at *
  generalize retag T2 g2 3 = T3 at *
  generalize z2.put 3 (.slice (some ⟨g2, 0, none⟩) (m + 1) cap2) (z2.rl 3 ++ [(b : Int)]) = z3 at *
  obtain ⟨ao3, cp3, hv3⟩ := Y3.out.rowV (f := 4) (by omega)
  have ln3 : (z3.rl 4).length = m := by rw [Q3.out.r4]; simp [L4.out]
  rw [ln3] at hv3
  have ra3 : w3.ownsRow 0 21 1 (.slice ao3 (m) cp3) (m) ((z3.rl 4).map (.int .i32)) := by have h := Y3.out.row (f := 4) (by omega); rw [hv3, ln3] at h; exact h
  have cf3 : w3.cell? ⟨Z, 4, none⟩ = some (.slice ao3 (m) cp3) := by rw [← Q3.out.Z, ← hv3]; exact Y3.out.f rfl
  have ff3 : w3.frozen? ⟨Z, 4, none⟩ = false := by rw [← Q3.out.Z]; exact Y3.out.ff 4
  have ne3 : (Value.slice ao3 (m) cp3).ownBlock ≠ some Z := by rw [← Q3.out.Z, ← hv3]; exact Y3.out.neZ (by omega)
  go_upto_region 5 with (at_builtin; refine wpList_append_lies _ rfl _ _ _ rfl 0 21 i0 _ 1 4 Try.underlying45 hi0 hz0 hz1 hz2 rfl (by omega) (.slice ao3 (m) cp3) (m) ((z3.rl 4).map (.int .i32)) rfl (ra3.alloc _) ⟨w3.heap.size, 0, none⟩ 1 1 [.int .i32 c] rfl rfl (World.news_of_block (cs := #[.int .i32 c]) (t := 21) (fr := (0, 0)) (heap_alloc_new w3 _)) (by simp [Value.oneCell']) (by omega) (by unfold maxLen; omega) (by omega) (Nat.zero_le _) (w3.heap.size + 1) (by simp) ?_; intro g3 cap3 x3 hown3 hgrow3 hat3 hlt3; have hc3 := cell_grown cf3 (below_laid _ _) hgrow3 ne3; have hf3 := frozen_grown (cell_at cf3) ff3 (below_laid _ _) hgrow3 ne3)
  have y3 := Y3.out.push (f := 4) (x := c) (by omega) (below_laid w3 _) (by rw [ln3]; exact hown3) (by rw [hv3]; exact hgrow3) (by rw [hv3]; exact hat3) (by simp) hlt3
  rw [Q3.out.Z, ln3] at y3
  have Q4 := hid_of (Q3.out.put4 (.slice (some ⟨g3, 0, none⟩) (m + 1) cap3) c)
  have S4 := hid_of (S3.out.trans y3.2)
  have Y4 := hid_of y3.1
  clear y3 hown3 hgrow3 hat3 hlt3 hc3 hf3 ra3 cf3 ff3 ne3 hv3 ln3 Q3 S3 Y3
  generalize x3.setCell ⟨Z, 4, none⟩ (.slice (some ⟨g3, 0, none⟩) (m + 1) cap3) = w4 at *
  generalize retag T3 g3 4 = T4 at *
  generalize z3.put 4 (.slice (some ⟨g3, 0, none⟩) (m + 1) cap3) (z3.rl 4 ++ [c]) = z4 at *
  obtain ⟨ao4, cp4, hv4⟩ := Y4.out.rowV (f := 5) (by omega)
  have ln4 : (z4.rl 5).length = m := by rw [Q4.out.r5]; simp [L5.out]
  rw [ln4] at hv4
  have ra4 : w4.ownsRow 0 21 1 (.slice ao4 (m) cp4) (m) ((z4.rl 5).map (.int .i32)) := by have h := Y4.out.row (f := 5) (by omega); rw [hv4, ln4] at h; exact h
  have cf4 : w4.cell? ⟨Z, 5, none⟩ = some (.slice ao4 (m) cp4) := by rw [← Q4.out.Z, ← hv4]; exact Y4.out.f rfl
  have ff4 : w4.frozen? ⟨Z, 5, none⟩ = false := by rw [← Q4.out.Z]; exact Y4.out.ff 5
  have ne4 : (Value.slice ao4 (m) cp4).ownBlock ≠ some Z := by rw [← Q4.out.Z, ← hv4]; exact Y4.out.neZ (by omega)
  go_upto_region 6 with (at_builtin; refine wpList_append_lies _ rfl _ _ _ rfl 0 21 i0 _ 1 4 Try.underlying45 hi0 hz0 hz1 hz2 rfl (by omega) (.slice ao4 (m) cp4) (m) ((z4.rl 5).map (.int .i32)) rfl (ra4.alloc _) ⟨w4.heap.size, 0, none⟩ 1 1 [.int .i32 x] rfl rfl (World.news_of_block (cs := #[.int .i32 x]) (t := 21) (fr := (0, 0)) (heap_alloc_new w4 _)) (by simp [Value.oneCell']) (by omega) (by unfold maxLen; omega) (by omega) (Nat.zero_le _) (w4.heap.size + 1) (by simp) ?_; intro g4 cap4 x4 hown4 hgrow4 hat4 hlt4; have hc4 := cell_grown cf4 (below_laid _ _) hgrow4 ne4; have hf4 := frozen_grown (cell_at cf4) ff4 (below_laid _ _) hgrow4 ne4)
  have y4 := Y4.out.push (f := 5) (x := x) (by omega) (below_laid w4 _) (by rw [ln4]; exact hown4) (by rw [hv4]; exact hgrow4) (by rw [hv4]; exact hat4) (by simp) hlt4
  rw [Q4.out.Z, ln4] at y4
  have Q5 := hid_of (Q4.out.put5 (.slice (some ⟨g4, 0, none⟩) (m + 1) cap4) x)
  have S5 := hid_of (S4.out.trans y4.2)
  have Y5 := hid_of y4.1
  clear y4 hown4 hgrow4 hat4 hlt4 hc4 hf4 ra4 cf4 ff4 ne4 hv4 ln4 Q4 S4 Y4
  generalize x4.setCell ⟨Z, 5, none⟩ (.slice (some ⟨g4, 0, none⟩) (m + 1) cap4) = w5 at *
  generalize retag T4 g4 5 = T5 at *
  generalize z4.put 5 (.slice (some ⟨g4, 0, none⟩) (m + 1) cap4) (z4.rl 5 ++ [x]) = z5 at *
  obtain ⟨ao5, cp5, hv5⟩ := Y5.out.rowV (f := 2) (by omega)
  have ln5 : (z5.rl 2).length = m + 1 := by rw [Q5.out.r2]; simp [L2.out]
  rw [ln5] at hv5
  have ra5 : w5.ownsRow 0 21 1 (.slice ao5 (m + 1) cp5) (m + 1) ((z5.rl 2).map (.int .i32)) := by have h := Y5.out.row (f := 2) (by omega); rw [hv5, ln5] at h; exact h
  have cf5 : w5.cell? ⟨Z, 2, none⟩ = some (.slice ao5 (m + 1) cp5) := by rw [← Q5.out.Z, ← hv5]; exact Y5.out.f rfl
  have ff5 : w5.frozen? ⟨Z, 2, none⟩ = false := by rw [← Q5.out.Z]; exact Y5.out.ff 2
  have ne5 : (Value.slice ao5 (m + 1) cp5).ownBlock ≠ some Z := by rw [← Q5.out.Z, ← hv5]; exact Y5.out.neZ (by omega)
  have c15 : w5.cell? ⟨Z, 1, none⟩ = some (.slice (some ⟨F, 0, none⟩) V V) := by rw [← Q5.out.Z, ← Q5.out.F, ← Q5.out.V]; exact Y5.out.f rfl
  have cn5 : w5.cell? ⟨F, b, none⟩ = some (.int .i32 fb) := by rw [← Q5.out.F]; exact Y5.out.fc (by rw [Q5.out.fs]; exact HFB.out)
  have nf5 : (Value.slice ao5 (m + 1) cp5).ownBlock ≠ some F := by rw [← Q5.out.F, ← hv5]; exact Y5.out.neF (by omega)
  go_upto_region 6 with fail
  refine wp_region_noPanic ?_
  refine wp_region_T (fun w' => w'.cell? ⟨Z, 2, none⟩ = some (.slice ao5 (m + 1) cp5) ∧ w'.cell? ⟨Z, 1, none⟩ = some (.slice (some ⟨F, 0, none⟩) V V) ∧ w'.cell? ⟨F, b, none⟩ = some (.int .i32 fb))
    [4, 8, 11] [12, 13, 16] [0, 1, 2, 3, 4, 5, 6, 7, 8, 9, 10, 11, 12, 13, 14, 15, 16] (by kernel_rfl) (by kernel_rfl) rfl (by kernel_rfl) (fun _ _ _ _ _ h => h) ⟨cf5, c15, cn5⟩ ?_
  simp only [List.map_cons, List.map_nil, List.getElem?_toArray, List.getElem?_cons_succ, List.getElem?_cons_zero]
  iterate 4
    refine wpT_take (v := ?_) (by rfl) (by rfl) ?_ ?_
    rotate_left 1
    focus (intro w; go_simp; try with_reducible rfl)
    simp only [Act.put, List.setIfInBounds_toArray, List.set_cons_zero, List.set_cons_succ]
  refine wpT_held (v := ?_) (by rfl) (by rfl) (by rfl) ?_ ?_
  rotate_left 1
  focus (rintro w ⟨s1, s2, s3⟩; go_simp; try with_reducible rfl)
  simp only [Act.put, List.setIfInBounds_toArray, List.set_cons_zero, List.set_cons_succ]
  iterate 3
    refine wpT_take (v := ?_) (by rfl) (by rfl) ?_ ?_
    rotate_left 1
    focus (intro w; go_simp; try with_reducible rfl)
    simp only [Act.put, List.setIfInBounds_toArray, List.set_cons_zero, List.set_cons_succ]
  refine wpT_held (v := ?_) (by rfl) (by rfl) (by rfl) ?_ ?_
  rotate_left 1
  focus (rintro w ⟨s1, s2, s3⟩; go_simp; try with_reducible rfl)
  simp only [Act.put, List.setIfInBounds_toArray, List.set_cons_zero, List.set_cons_succ]
  iterate 2
    refine wpT_take (v := ?_) (by rfl) (by rfl) ?_ ?_
    rotate_left 1
    focus (intro w; go_simp; try with_reducible rfl)
    simp only [Act.put, List.setIfInBounds_toArray, List.set_cons_zero, List.set_cons_succ]
  refine wpT_held (v := ?_) (by rfl) (by rfl) (by rfl) ?_ ?_
  rotate_left 1
  focus (rintro w ⟨s1, s2, s3⟩; go_simp; try with_reducible rfl)
  simp only [Act.put, List.setIfInBounds_toArray, List.set_cons_zero, List.set_cons_succ]
  refine wpT_eff (by rfl) (fun K hK => ?_)
  go_simp
  refine hK _ _ (fun _ => ⟨cell_later (below_laid_drew w5 _) cf5, cell_later (below_laid_drew w5 _) c15, cell_later (below_laid_drew w5 _) cn5⟩) ?_
  clear hK K
  try simp only [Act.put, List.setIfInBounds_toArray, List.set_cons_zero, List.set_cons_succ]
  refine wpT_eff (by rfl) (fun K hK => ?_)
  refine wp_append_lies _ _ _ _ rfl 0 21 i0 _ 1 4 Try.underlying45 hi0 hz0 hz1 hz2 rfl (by omega) (.slice ao5 (m + 1) cp5) (m + 1) ((z5.rl 2).map (.int .i32)) rfl ((ra5.alloc _).drew) ⟨w5.heap.size, 0, none⟩ 1 1 [.int .i32 fb] rfl rfl (World.news_of_block (cs := #[.int .i32 fb]) (t := 21) (fr := (0, 0)) (heap_alloc_new w5 _)) (by simp [Value.oneCell']) (by omega) (by unfold maxLen; omega) (by omega) (Nat.zero_le _) (w5.heap.size + 1) (by simp) ?_
  intro g5 cap5 x5 hown5 hgrow5 hat5 hlt5
  refine hK _ _ (fun _ => ⟨cell_grown cf5 (below_laid_drew _ _) hgrow5 ne5, cell_grown c15 (below_laid_drew _ _) hgrow5 ne5, cell_grown cn5 (below_laid_drew _ _) hgrow5 nf5⟩) ?_
  clear hK K
  try simp only [Act.put, List.setIfInBounds_toArray, List.set_cons_zero, List.set_cons_succ]
  iterate 2
    refine wpT_take (v := ?_) (by rfl) (by rfl) ?_ ?_
    rotate_left 1
    focus (intro w; go_simp; try with_reducible rfl)
    simp only [Act.put, List.setIfInBounds_toArray, List.set_cons_zero, List.set_cons_succ]
  refine wpT_last (by rfl) (by kernel_rfl) (fun K hK => ?_)
  have hc5 := cell_grown cf5 (below_laid_drew _ _) hgrow5 ne5
  have hf5 := frozen_grown (cell_at cf5) ff5 (below_laid_drew _ _) hgrow5 ne5
  go_simp
  refine hK _ _ ?_
  clear hK K
  try simp only [Act.put, List.setIfInBounds_toArray, List.set_cons_zero, List.set_cons_succ]
  refine wpT_nil ?_
  refine NoPanic.normal ?_
  have y5 := Y5.out.push (f := 2) (x := fb) (by omega) (below_laid_drew w5 _) (by rw [ln5]; exact hown5) (by rw [hv5]; exact hgrow5) (by rw [hv5]; exact hat5) (by simp) hlt5
  rw [Q5.out.Z, ln5] at y5
  have Q6 := hid_of (Q5.out.put2 (.slice (some ⟨g5, 0, none⟩) (m + 1 + 1) cap5) fb)
  have S6 := hid_of (S5.out.trans y5.2)
  have Y6 := hid_of y5.1
  clear y5 hown5 hgrow5 hat5 hlt5 hc5 hf5 ra5 cf5 ff5 ne5 hv5 ln5 Q5 S5 Y5 c15 cn5 nf5
  generalize x5.setCell ⟨Z, 2, none⟩ (.slice (some ⟨g5, 0, none⟩) (m + 1 + 1) cap5) = w6 at *
  generalize retag T5 g5 2 = T6 at *
  generalize z5.put 2 (.slice (some ⟨g5, 0, none⟩) (m + 1 + 1) cap5) (z5.rl 2 ++ [fb]) = z6 at *
  obtain ⟨ao6, cp6, hv6⟩ := Y6.out.rowV (f := 3) (by omega)
  have ln6 : (z6.rl 3).length = m + 1 := by rw [Q6.out.r3]; simp [L3.out]
  rw [ln6] at hv6
  have cf6 : w6.cell? ⟨Z, 3, none⟩ = some (.slice ao6 (m + 1) cp6) := by rw [← Q6.out.Z, ← hv6]; exact Y6.out.f rfl
  have c16 : w6.cell? ⟨Z, 1, none⟩ = some (.slice (some ⟨F, 0, none⟩) V V) := by rw [← Q6.out.Z, ← Q6.out.F, ← Q6.out.V]; exact Y6.out.f rfl
  obtain ⟨u6, cn6⟩ : ∃ u, w6.cell? ⟨F, b, none⟩ = some u := ⟨_, by rw [← Q6.out.F]; exact Y6.out.fc (List.getElem?_eq_getElem (by rw [Y6.out.flen, Q6.out.V]; omega))⟩
  have cz6 : w6.frozen? ⟨F, b, none⟩ = false := by rw [← Q6.out.F]; exact Y6.out.fcf b
  go_upto_region 7 with fail
  refine wp_region_noPanic ?_
  refine wp_region_T (fun w' => w'.cell? ⟨Z, 3, none⟩ = some (.slice ao6 (m + 1) cp6) ∧ w'.cell? ⟨Z, 1, none⟩ = some (.slice (some ⟨F, 0, none⟩) V V))
    [3, 8] [12] [0, 1, 2, 3, 4, 5, 6, 7, 8, 9, 10, 11, 12] (by kernel_rfl) (by kernel_rfl) rfl (by kernel_rfl) (fun _ _ _ _ _ h => h) ⟨cf6, c16⟩ ?_
  simp only [List.map_cons, List.map_nil, List.getElem?_toArray, List.getElem?_cons_succ, List.getElem?_cons_zero]
  iterate 3
    refine wpT_take (v := ?_) (by rfl) (by rfl) ?_ ?_
    rotate_left 1
    focus (intro w; go_simp; try with_reducible rfl)
    simp only [Act.put, List.setIfInBounds_toArray, List.set_cons_zero, List.set_cons_succ]
  refine wpT_held (v := ?_) (by rfl) (by rfl) (by rfl) ?_ ?_
  rotate_left 1
  focus (rintro w ⟨s1, s2⟩; go_simp; try with_reducible rfl)
  simp only [Act.put, List.setIfInBounds_toArray, List.set_cons_zero, List.set_cons_succ]
  iterate 4
    refine wpT_take (v := ?_) (by rfl) (by rfl) ?_ ?_
    rotate_left 1
    focus (intro w; go_simp; try with_reducible rfl)
    simp only [Act.put, List.setIfInBounds_toArray, List.set_cons_zero, List.set_cons_succ]
  refine wpT_held (v := ?_) (by rfl) (by rfl) (by rfl) ?_ ?_
  rotate_left 1
  focus (rintro w ⟨s1, s2⟩; go_simp; try with_reducible rfl)
  simp only [Act.put, List.setIfInBounds_toArray, List.set_cons_zero, List.set_cons_succ]
  iterate 3
    refine wpT_take (v := ?_) (by rfl) (by rfl) ?_ ?_
    rotate_left 1
    focus (intro w; go_simp; try with_reducible rfl)
    simp only [Act.put, List.setIfInBounds_toArray, List.set_cons_zero, List.set_cons_succ]
  refine wpT_last (by rfl) (by kernel_rfl) (fun K hK => ?_)
  go_simp
  refine hK _ _ ?_
  clear hK K
  try simp only [Act.put, List.setIfInBounds_toArray, List.set_cons_zero, List.set_cons_succ]
  refine wpT_nil ?_
  refine NoPanic.normal ?_
  have yd6 := Y6.out.setFirst b ((m : Int) + 1)
  rw [Q6.out.F] at yd6
  have Q7 := hid_of (Q6.out.set b ((m : Int) + 1))
  have S7 := hid_of (S6.out.trans yd6.2).drew
  have Y7 := hid_of (yd6.1.later ((Below.refl _ _).drew))
  clear yd6 cf6 c16 cn6 cz6 hv6 ln6 Q6 S6 Y6
  generalize (w6.setCell ⟨F, b, none⟩ (.int .i32 ((m : Int) + 1))).drew = w7 at *
  generalize z6.setFirst b ((m : Int) + 1) = z7 at *
  obtain ⟨T7, hT7⟩ : ∃ T', T6 = T' := ⟨_, rfl⟩
  rw [hT7] at S7 Y7
  clear hT7
  obtain ⟨ao7, cp7, hv7⟩ := Y7.out.rowV (f := 3) (by omega)
  have ln7 : (z7.rl 3).length = m + 1 := by rw [Q7.out.r3]; simp [L3.out]
  rw [ln7] at hv7
  have ra7 : w7.ownsRow 0 21 1 (.slice ao7 (m + 1) cp7) (m + 1) ((z7.rl 3).map (.int .i32)) := by have h := Y7.out.row (f := 3) (by omega); rw [hv7, ln7] at h; exact h
  have cf7 : w7.cell? ⟨Z, 3, none⟩ = some (.slice ao7 (m + 1) cp7) := by rw [← Q7.out.Z, ← hv7]; exact Y7.out.f rfl
  have ff7 : w7.frozen? ⟨Z, 3, none⟩ = false := by rw [← Q7.out.Z]; exact Y7.out.ff 3
  have ne7 : (Value.slice ao7 (m + 1) cp7).ownBlock ≠ some Z := by rw [← Q7.out.Z, ← hv7]; exact Y7.out.neZ (by omega)
  go_upto_region 9 with (at_builtin; refine wpList_append_lies _ rfl _ _ _ rfl 0 21 i0 _ 1 4 Try.underlying45 hi0 hz0 hz1 hz2 rfl (by omega) (.slice ao7 (m + 1) cp7) (m + 1) ((z7.rl 3).map (.int .i32)) rfl (ra7.alloc _) ⟨w7.heap.size, 0, none⟩ 1 1 [.int .i32 (a : Int)] rfl rfl (World.news_of_block (cs := #[.int .i32 (a : Int)]) (t := 21) (fr := (0, 0)) (heap_alloc_new w7 _)) (by simp [Value.oneCell']) (by omega) (by unfold maxLen; omega) (by omega) (Nat.zero_le _) (w7.heap.size + 1) (by simp) ?_; intro g7 cap7 x7 hown7 hgrow7 hat7 hlt7; have hc7 := cell_grown cf7 (below_laid _ _) hgrow7 ne7; have hf7 := frozen_grown (cell_at cf7) ff7 (below_laid _ _) hgrow7 ne7)
  have y7 := Y7.out.push (f := 3) (x := (a : Int)) (by omega) (below_laid w7 _) (by rw [ln7]; exact hown7) (by rw [hv7]; exact hgrow7) (by rw [hv7]; exact hat7) (by simp) hlt7
  rw [Q7.out.Z, ln7] at y7
  have Q8 := hid_of (Q7.out.put3 (.slice (some ⟨g7, 0, none⟩) (m + 1 + 1) cap7) (a : Int))
  have S8 := hid_of (S7.out.trans y7.2)
  have Y8 := hid_of y7.1
  clear y7 hown7 hgrow7 hat7 hlt7 hc7 hf7 ra7 cf7 ff7 ne7 hv7 ln7 Q7 S7 Y7
  generalize x7.setCell ⟨Z, 3, none⟩ (.slice (some ⟨g7, 0, none⟩) (m + 1 + 1) cap7) = w8 at *
  generalize retag T7 g7 3 = T8 at *
  generalize z7.put 3 (.slice (some ⟨g7, 0, none⟩) (m + 1 + 1) cap7) (z7.rl 3 ++ [(a : Int)]) = z8 at *
  obtain ⟨ao8, cp8, hv8⟩ := Y8.out.rowV (f := 4) (by omega)
  have ln8 : (z8.rl 4).length = m + 1 := by rw [Q8.out.r4]; simp [L4.out]
  rw [ln8] at hv8
  have ra8 : w8.ownsRow 0 21 1 (.slice ao8 (m + 1) cp8) (m + 1) ((z8.rl 4).map (.int .i32)) := by have h := Y8.out.row (f := 4) (by omega); rw [hv8, ln8] at h; exact h
  have cf8 : w8.cell? ⟨Z, 4, none⟩ = some (.slice ao8 (m + 1) cp8) := by rw [← Q8.out.Z, ← hv8]; exact Y8.out.f rfl
  have ff8 : w8.frozen? ⟨Z, 4, none⟩ = false := by rw [← Q8.out.Z]; exact Y8.out.ff 4
  have ne8 : (Value.slice ao8 (m + 1) cp8).ownBlock ≠ some Z := by rw [← Q8.out.Z, ← hv8]; exact Y8.out.neZ (by omega)
  go_upto_region 10 with (at_builtin; refine wpList_append_lies _ rfl _ _ _ rfl 0 21 i0 _ 1 4 Try.underlying45 hi0 hz0 hz1 hz2 rfl (by omega) (.slice ao8 (m + 1) cp8) (m + 1) ((z8.rl 4).map (.int .i32)) rfl (ra8.alloc _) ⟨w8.heap.size, 0, none⟩ 1 1 [.int .i32 0] rfl rfl (World.news_of_block (cs := #[.int .i32 0]) (t := 21) (fr := (0, 0)) (heap_alloc_new w8 _)) (by simp [Value.oneCell']) (by omega) (by unfold maxLen; omega) (by omega) (Nat.zero_le _) (w8.heap.size + 1) (by simp) ?_; intro g8 cap8 x8 hown8 hgrow8 hat8 hlt8; have hc8 := cell_grown cf8 (below_laid _ _) hgrow8 ne8; have hf8 := frozen_grown (cell_at cf8) ff8 (below_laid _ _) hgrow8 ne8)
  have y8 := Y8.out.push (f := 4) (x := 0) (by omega) (below_laid w8 _) (by rw [ln8]; exact hown8) (by rw [hv8]; exact hgrow8) (by rw [hv8]; exact hat8) (by simp) hlt8
  rw [Q8.out.Z, ln8] at y8
  have Q9 := hid_of (Q8.out.put4 (.slice (some ⟨g8, 0, none⟩) (m + 1 + 1) cap8) 0)
  have S9 := hid_of (S8.out.trans y8.2)
  have Y9 := hid_of y8.1
  clear y8 hown8 hgrow8 hat8 hlt8 hc8 hf8 ra8 cf8 ff8 ne8 hv8 ln8 Q8 S8 Y8
  generalize x8.setCell ⟨Z, 4, none⟩ (.slice (some ⟨g8, 0, none⟩) (m + 1 + 1) cap8) = w9 at *
  generalize retag T8 g8 4 = T9 at *
  generalize z8.put 4 (.slice (some ⟨g8, 0, none⟩) (m + 1 + 1) cap8) (z8.rl 4 ++ [0]) = z9 at *
  obtain ⟨ao9, cp9, hv9⟩ := Y9.out.rowV (f := 5) (by omega)
  have ln9 : (z9.rl 5).length = m + 1 := by rw [Q9.out.r5]; simp [L5.out]
  rw [ln9] at hv9
  have ra9 : w9.ownsRow 0 21 1 (.slice ao9 (m + 1) cp9) (m + 1) ((z9.rl 5).map (.int .i32)) := by have h := Y9.out.row (f := 5) (by omega); rw [hv9, ln9] at h; exact h
  have cf9 : w9.cell? ⟨Z, 5, none⟩ = some (.slice ao9 (m + 1) cp9) := by rw [← Q9.out.Z, ← hv9]; exact Y9.out.f rfl
  have ff9 : w9.frozen? ⟨Z, 5, none⟩ = false := by rw [← Q9.out.Z]; exact Y9.out.ff 5
  have ne9 : (Value.slice ao9 (m + 1) cp9).ownBlock ≠ some Z := by rw [← Q9.out.Z, ← hv9]; exact Y9.out.neZ (by omega)
  go_wp2_with (at_builtin; refine wpList_append_lies _ rfl _ _ _ rfl 0 21 i0 _ 1 4 Try.underlying45 hi0 hz0 hz1 hz2 rfl (by omega) (.slice ao9 (m + 1) cp9) (m + 1) ((z9.rl 5).map (.int .i32)) rfl (ra9.alloc _) ⟨w9.heap.size, 0, none⟩ 1 1 [.int .i32 (-x)] rfl rfl (World.news_of_block (cs := #[.int .i32 (-x)]) (t := 21) (fr := (0, 0)) (heap_alloc_new w9 _)) (by simp [Value.oneCell']) (by omega) (by unfold maxLen; omega) (by omega) (Nat.zero_le _) (w9.heap.size + 1) (by simp) ?_; intro g9 cap9 x9 hown9 hgrow9 hat9 hlt9; have hc9 := cell_grown cf9 (below_laid _ _) hgrow9 ne9; have hf9 := frozen_grown (cell_at cf9) ff9 (below_laid _ _) hgrow9 ne9)
  have y9 := Y9.out.push (f := 5) (x := (-x)) (by omega) (below_laid w9 _) (by rw [ln9]; exact hown9) (by rw [hv9]; exact hgrow9) (by rw [hv9]; exact hat9) (by simp) hlt9
  rw [Q9.out.Z, ln9] at y9
  have Q10 := hid_of (Q9.out.put5 (.slice (some ⟨g9, 0, none⟩) (m + 1 + 1) cap9) (-x))
  have S10 := hid_of (S9.out.trans y9.2)
  have Y10 := hid_of y9.1
  clear y9 hown9 hgrow9 hat9 hlt9 hc9 hf9 ra9 cf9 ff9 ne9 hv9 ln9 Q9 S9 Y9
  generalize x9.setCell ⟨Z, 5, none⟩ (.slice (some ⟨g9, 0, none⟩) (m + 1 + 1) cap9) = w10 at *
  generalize retag T9 g9 5 = T10 at *
  generalize z9.put 5 (.slice (some ⟨g9, 0, none⟩) (m + 1 + 1) cap9) (z9.rl 5 ++ [(-x)]) = z10 at *
  have HE : Hid (AddR w0 T Z F V ((fs.set a (m : Int)).set b ((m : Int) + 1)) (l2 ++ [fa] ++ [fb]) (l3 ++ [(b : Int)] ++ [(a : Int)]) (l4 ++ [c] ++ [0]) (l5 ++ [x] ++ [-x]) (.returned (.tuple #[])) w10) := ⟨rfl, T10, z10, Y10.out, S10.out, Q10.out⟩
  go_wp2
  exact bodyPost_ret (v := .tuple #[]) (by simp [results, Try.results53, go_sem]) rfl HE.out
end Go.Proofs.Qxb6605292a