import Derived.Test.Qxb6605292aFin
import Derived.Deep.Light
namespace Go.Proofs.Qxb6605292a
open Go.RowKit

set_option maxRecDepth 100000 in
set_option maxHeartbeats 1600000 in
theorem arc_any {w : World} {T : Nat → Nat} {s : FV} (a b : Nat) (full cost : Int) (h : FinAt w T s) (ha : a < s.V) (hb : b < s.V) (hV : s.V ≤ 1000) (hm : s.arcs.length ≤ 1000000) (hra : (s.row a).length ≤ 1000000) (hrb : (s.row b).length ≤ 1000000) (hc0 : 0 ≤ cost) (hc1 : cost ≤ 1) :
    Calls Try.prog 58 #[ptr0 s.F, .int .i64 a, .int .i64 b, .int .i8 full, .int .i8 cost] w fun e w' => ArcR w T s a b full cost e w' := by
  obtain ⟨i0, hi0, hz0, hz1, hz2⟩ := info_parts Try.info21
  obtain ⟨j0, hj0, hy0, hy1, hy2⟩ := info_parts Try.info67
  obtain ⟨ao1, ac1, va1, hva1, x1⟩ := h.forArc ha
  have HV1 : Hid _ := hva1
  have H1 : Hid (FinAt w T s) := h
  have X1 : Hid (ForArc w s a ao1 ac1 va1) := x1
  have c21 := x1.c2
  have c31 := x1.c3
  have cn1 := x1.cn
  have lF1 := cell_at c21
  have lN1 := cell_at cn1
  clear x1 h hva1
  have hwm : IntKind.i32.wrap (s.arcs.length : Int) = s.arcs.length := wrap32_nat (by omega)
  have hwa : IntKind.i32.wrap (a : Int) = a := wrap32_nat (by omega)
  have hwb : IntKind.i32.wrap (b : Int) = b := wrap32_nat (by omega)
  unfold ptr0
  go_enter Try.func58, Try.ntmps58
  go_wp2_with fail
  refine wp_region_noPanic ?_
  refine wp_region_T (fun w' => w'.cell? ⟨s.F, 2, none⟩ = some (.slice (some ⟨s.bNodes, 0, none⟩) s.V s.V) ∧ w'.cell? ⟨s.F, 3, none⟩ = some (.slice ao1 s.arcs.length ac1) ∧ w'.cell? ⟨s.bNodes, a, none⟩ = some va1)
    [3, 8, 11, 15] [18, 19, 21] [0, 1, 2, 3, 4, 5, 6, 7, 8, 9, 10, 11, 12, 13, 14, 15, 16, 17, 18, 19, 20, 21] (by kernel_rfl) (by kernel_rfl) rfl (by kernel_rfl) (fun _ _ _ _ _ h => h) ⟨c21, c31, cn1⟩ ?_
  simp only [List.map_cons, List.map_nil, List.getElem?_toArray, List.getElem?_cons_succ, List.getElem?_cons_zero]
  iterate 3
    refine wpT_take (v := ?_) (by rfl) (by rfl) ?_ ?_
    rotate_left 1
    focus (intro w; go_simp; try with_reducible rfl)
    simp only [Act.put, List.setIfInBounds_toArray, List.set_cons_zero, List.set_cons_succ]
  refine wpT_held (v := ?_) (by rfl) (by rfl) (by rfl) ?_ ?_
  rotate_left 1
  focus (rintro w ⟨s1, s2, s3⟩; go_simp; try with_reducible rfl)
  simp only [Act.put, List.setIfInBounds_toArray, List.set_cons_zero, List.set_cons_succ]
  iterate 4
    refine wpT_take (v := ?_) (by rfl) (by rfl) ?_ ?_
    rotate_left 1
    focus (intro w; go_simp; try with_reducible rfl)
    simp only [Act.put, List.setIfInBounds_toArray, List.set_cons_zero, List.set_cons_succ]
  refine wpT_held (v := ?_) (by rfl) (by rfl) (by rfl) ?_ ?_
  rotate_left 1
  focus (rintro w ⟨s1, s2, s3⟩; go_simp; try with_reducible rfl)
  simp only [Act.put, List.setIfInBounds_toArray, List.set_cons_zero, List.set_cons_succ]
  iterate 2
    refine wpT_take (v := ?_) (by rfl) (by rfl) ?_ ?_
    rotate_left 1
    focus (intro w; go_simp; try with_reducible rfl)
    simp only [Act.put, List.setIfInBounds_toArray, List.set_cons_zero, List.set_cons_succ]
  refine wpT_held (v := ?_) (by rfl) (by rfl) (by rfl) ?_ ?_
  rotate_left 1
  focus (rintro w ⟨s1, s2, s3⟩; go_simp; try with_reducible rfl)
  simp only [Act.put, List.setIfInBounds_toArray, List.set_cons_zero, List.set_cons_succ]
  iterate 3
    refine wpT_take (v := ?_) (by rfl) (by rfl) ?_ ?_
    rotate_left 1
    focus (intro w; go_simp; try with_reducible rfl)
    simp only [Act.put, List.setIfInBounds_toArray, List.set_cons_zero, List.set_cons_succ]
  refine wpT_held (v := ?_) (by rfl) (by rfl) (by rfl) ?_ ?_
  rotate_left 1
  focus (rintro w ⟨s1, s2, s3⟩; go_simp; try with_reducible rfl)
  simp only [Act.put, List.setIfInBounds_toArray, List.set_cons_zero, List.set_cons_succ]
  iterate 2
    refine wpT_take (v := ?_) (by rfl) (by rfl) ?_ ?_
    rotate_left 1
    focus (intro w; go_simp; try with_reducible rfl)
    simp only [Act.put, List.setIfInBounds_toArray, List.set_cons_zero, List.set_cons_succ]
  refine wpT_eff (by rfl) (fun K hK => ?_)
  go_simp
  refine hK _ _ (fun _ => by go_keep) ?_
  clear hK K
  try simp only [Act.put, List.setIfInBounds_toArray, List.set_cons_zero, List.set_cons_succ]
  refine wpT_eff (by rfl) (fun K hK => ?_)
  refine wp_append_lies _ _ _ _ rfl 0 21 i0 _ 1 4 Try.underlying45 hi0 hz0 hz1 hz2 rfl (by omega) va1 (s.row a).length ((s.row a).map (.int .i32)) rfl ((X1.out.ro.alloc _).drew)
        ⟨w.heap.size, 0, none⟩ 1 1 [.int .i32 s.arcs.length] rfl rfl (World.news_of_block (cs := #[.int .i32 s.arcs.length]) (t := 21) (fr := (0, 0)) (heap_alloc_new w _)) (by simp [Value.oneCell'])
        (by omega) (by unfold maxLen; omega) (by omega) (Nat.zero_le _) (w.heap.size + 1) (by simp) ?_
  intro g1 cap1 x1 hown1 hgrow1 hat1 hlt1
  refine hK _ _ (fun _ => ⟨cell_grown c21 (below_laid_drew _ _) hgrow1 X1.out.ne1, cell_grown c31 (below_laid_drew _ _) hgrow1 X1.out.ne1, cell_grown cn1 (below_laid_drew _ _) hgrow1 X1.out.ne2⟩) ?_
  clear hK K
  try simp only [Act.put, List.setIfInBounds_toArray, List.set_cons_zero, List.set_cons_succ]
  refine wpT_take (v := ?_) (by rfl) (by rfl) ?_ ?_
  rotate_left 1
  focus (intro w; go_simp; try with_reducible rfl)
  simp only [Act.put, List.setIfInBounds_toArray, List.set_cons_zero, List.set_cons_succ]
  refine wpT_last (by rfl) (by kernel_rfl) (fun K hK => ?_)
  have hc1 := cell_grown cn1 (below_laid_drew _ _) hgrow1 X1.out.ne2
  have hf1 := frozen_grown (cell_at cn1) X1.out.fn (below_laid_drew _ _) hgrow1 X1.out.ne2
  go_simp
  refine hK _ _ ?_
  clear hK K
  try simp only [Act.put, List.setIfInBounds_toArray, List.set_cons_zero, List.set_cons_succ]
  refine wpT_nil ?_
  refine NoPanic.normal ?_
  obtain ⟨y2, st2⟩ := H1.out.pushRow (x := s.arcs.length) HV1.out (below_laid_drew _ _) hown1 hgrow1 hat1 (by simp) hlt1
  generalize x1.setCell ⟨s.bNodes, a, none⟩ (.slice (some ⟨g1, 0, none⟩) ((s.row a).length + 1) cap1) = w2 at *
  generalize retag T g1 (100 + a) = T2 at *
  clear hown1 hgrow1 hat1 hlt1 hc1 hf1 X1 H1 c21 c31 cn1 lF1 lN1
  obtain ⟨ao2, ac2, va2, hva2, x2⟩ := y2.forArc hb
  have HV2 : Hid _ := hva2
  have H2 : Hid _ := y2
  have S2 : Hid _ := st2
  have X2 : Hid _ := x2
  have c22 : w2.cell? ⟨s.F, 2, none⟩ = some (.slice (some ⟨s.bNodes, 0, none⟩) s.V s.V) := x2.c2
  have c32 : w2.cell? ⟨s.F, 3, none⟩ = some (.slice ao2 s.arcs.length ac2) := x2.c3
  have ra2 : w2.ownsRow 0 67 4 (.slice ao2 s.arcs.length ac2) s.arcs.length (s.arcs.flatMap Arc.cells) := by have := x2.ra; rw [x2.eva] at this; exact this
  have f32 : w2.frozen? ⟨s.F, 3, none⟩ = false := x2.f3
  have ne32 : (Value.slice ao2 s.arcs.length ac2).ownBlock ≠ some s.F := by have := x2.ne3; rw [x2.eva] at this; exact this
  clear y2 st2 x2 hva2
  go_wp2_with (at_builtin; refine wpList_append_lies _ rfl _ _ _ rfl 0 67 j0 _ 4 8 Try.underlying69 hj0 hy0 hy1 hy2 rfl (by omega) (.slice ao2 s.arcs.length ac2) s.arcs.length (s.arcs.flatMap Arc.cells) rfl (ra2.alloc _) ⟨w2.heap.size, 0, none⟩ 1 1 (Arc.cells ⟨b, full, full, cost⟩) rfl rfl (World.news_of_block (cs := (Arc.cells ⟨b, full, full, cost⟩).toArray) (t := 67) (fr := (0, 0)) (heap_alloc_new w2 _)) (by simp [Value.oneCell', Arc.cells]) (by omega) (by unfold maxLen; omega) (by omega) (Nat.zero_le _) (w2.heap.size + 1) (by simp) ?_; intro g3 cap3 x3 hown3 hgrow3 hat3 hlt3; have hc3 := cell_grown c32 (below_laid _ _) hgrow3 ne32; have hf3 := frozen_grown (cell_at c32) f32 (below_laid _ _) hgrow3 ne32)
  have y4 := H2.out.pushArc (c := ⟨b, full, full, cost⟩) (below_laid _ _) hown3 (by rw [X2.out.eva]; exact hgrow3) (by rw [X2.out.eva]; exact hat3) (by simp) hlt3
  have Y4 : Hid (FinAt (x3.setCell ⟨s.F, 3, none⟩ (.slice (some ⟨g3, 0, none⟩) (s.arcs.length + 1) cap3)) (retag T2 g3 11) ((s.pushRow a s.arcs.length (.slice (some ⟨g1, 0, none⟩) ((s.row a).length + 1) cap1)).pushArc ⟨b, full, full, cost⟩ (.slice (some ⟨g3, 0, none⟩) (s.arcs.length + 1) cap3))) := y4.1
  have S4 : Hid (Step arcT w T (x3.setCell ⟨s.F, 3, none⟩ (.slice (some ⟨g3, 0, none⟩) (s.arcs.length + 1) cap3)) (retag T2 g3 11)) := S2.out.trans y4.2
  clear y4 hown3 hgrow3 hat3 hlt3 hc3 hf3 c22 c32 ra2 f32 ne32 X2 H2 S2 HV2
  generalize x3.setCell ⟨s.F, 3, none⟩ (.slice (some ⟨g3, 0, none⟩) (s.arcs.length + 1) cap3) = w4 at *
  generalize retag T2 g3 11 = T4 at *
  clear x3
  obtain ⟨ao4, ac4, va4, hva4, x4⟩ := Y4.out.forArc hb
  obtain ⟨rb, hrb'⟩ : ∃ rb, rb = (s.pushRow a s.arcs.length (.slice (some ⟨g1, 0, none⟩) ((s.row a).length + 1) cap1)).row b := ⟨_, rfl⟩
  have lrb : rb.length ≤ 1000001 := by
    rw [hrb']
    unfold FV.pushRow FV.row
    simp only
    by_cases e : a = b
    · subst e
      by_cases hl : a < s.nodes.length
      · simp [hl]; simpa [FV.row, hl] using hra
      · simp [hl]
    · simp [List.getElem?_set_ne e]; exact Nat.le_trans hrb (by omega)
  have HRB : Hid (rb = (s.pushRow a s.arcs.length (.slice (some ⟨g1, 0, none⟩) ((s.row a).length + 1) cap1)).row b) := hrb'
  have HV4 : Hid _ := hva4
  have X4 : Hid _ := x4
  have c24 : w4.cell? ⟨s.F, 2, none⟩ = some (.slice (some ⟨s.bNodes, 0, none⟩) s.V s.V) := x4.c2
  have c34 : w4.cell? ⟨s.F, 3, none⟩ = some (.slice ao4 (s.arcs.length + 1) ac4) := by have := x4.c3; simp only [FV.pushArc, FV.pushRow, List.length_append, List.length_cons, List.length_nil] at this; exact this
  have cn4 : w4.cell? ⟨s.bNodes, b, none⟩ = some va4 := x4.cn
  have ro4 : w4.ownsRow 0 21 1 va4 rb.length (rb.map (.int .i32)) := by rw [hrb']; exact x4.ro
  have lF4 := cell_at c24
  have lN4 := cell_at cn4
  have hwm4 : IntKind.i32.wrap ((s.arcs.length : Int) + 1) = s.arcs.length + 1 := wrap32_nat (m := s.arcs.length + 1) (by omega)
  clear x4 hva4 hrb'
  refine wp_region_noPanic ?_
  refine wp_region_T (fun w' => w'.cell? ⟨s.F, 2, none⟩ = some (.slice (some ⟨s.bNodes, 0, none⟩) s.V s.V) ∧ w'.cell? ⟨s.F, 3, none⟩ = some (.slice ao4 (s.arcs.length + 1) ac4) ∧ w'.cell? ⟨s.bNodes, b, none⟩ = some va4)
    [3, 8, 11, 15] [18, 19, 21] [0, 1, 2, 3, 4, 5, 6, 7, 8, 9, 10, 11, 12, 13, 14, 15, 16, 17, 18, 19, 20, 21] (by kernel_rfl) (by kernel_rfl) rfl (by kernel_rfl) (fun _ _ _ _ _ h => h) ⟨c24, c34, cn4⟩ ?_
  simp only [List.map_cons, List.map_nil, List.getElem?_toArray, List.getElem?_cons_succ, List.getElem?_cons_zero]
  iterate 3
    refine wpT_take (v := ?_) (by rfl) (by rfl) ?_ ?_
    rotate_left 1
    focus (intro w; go_simp; try with_reducible rfl)
    simp only [Act.put, List.setIfInBounds_toArray, List.set_cons_zero, List.set_cons_succ]
  refine wpT_held (v := ?_) (by rfl) (by rfl) (by rfl) ?_ ?_
  rotate_left 1
  focus (rintro w ⟨s1, s2, s3⟩; go_simp; try with_reducible rfl)
  simp only [Act.put, List.setIfInBounds_toArray, List.set_cons_zero, List.set_cons_succ]
  iterate 4
    refine wpT_take (v := ?_) (by rfl) (by rfl) ?_ ?_
    rotate_left 1
    focus (intro w; go_simp; try with_reducible rfl)
    simp only [Act.put, List.setIfInBounds_toArray, List.set_cons_zero, List.set_cons_succ]
  refine wpT_held (v := ?_) (by rfl) (by rfl) (by rfl) ?_ ?_
  rotate_left 1
  focus (rintro w ⟨s1, s2, s3⟩; go_simp; try with_reducible rfl)
  simp only [Act.put, List.setIfInBounds_toArray, List.set_cons_zero, List.set_cons_succ]
  iterate 2
    refine wpT_take (v := ?_) (by rfl) (by rfl) ?_ ?_
    rotate_left 1
    focus (intro w; go_simp; try with_reducible rfl)
    simp only [Act.put, List.setIfInBounds_toArray, List.set_cons_zero, List.set_cons_succ]
  refine wpT_held (v := ?_) (by rfl) (by rfl) (by rfl) ?_ ?_
  rotate_left 1
  focus (rintro w ⟨s1, s2, s3⟩; go_simp; try with_reducible rfl)
  simp only [Act.put, List.setIfInBounds_toArray, List.set_cons_zero, List.set_cons_succ]
  iterate 3
    refine wpT_take (v := ?_) (by rfl) (by rfl) ?_ ?_
    rotate_left 1
    focus (intro w; go_simp; try with_reducible rfl)
    simp only [Act.put, List.setIfInBounds_toArray, List.set_cons_zero, List.set_cons_succ]
  refine wpT_held (v := ?_) (by rfl) (by rfl) (by rfl) ?_ ?_
  rotate_left 1
  focus (rintro w ⟨s1, s2, s3⟩; go_simp; try with_reducible rfl)
  simp only [Act.put, List.setIfInBounds_toArray, List.set_cons_zero, List.set_cons_succ]
  iterate 2
    refine wpT_take (v := ?_) (by rfl) (by rfl) ?_ ?_
    rotate_left 1
    focus (intro w; go_simp; try with_reducible rfl)
    simp only [Act.put, List.setIfInBounds_toArray, List.set_cons_zero, List.set_cons_succ]
  refine wpT_eff (by rfl) (fun K hK => ?_)
  go_simp
  refine hK _ _ (fun _ => by go_keep) ?_
  clear hK K
  try simp only [Act.put, List.setIfInBounds_toArray, List.set_cons_zero, List.set_cons_succ]
  refine wpT_eff (by rfl) (fun K hK => ?_)
  refine wp_append_lies _ _ _ _ rfl 0 21 i0 _ 1 4 Try.underlying45 hi0 hz0 hz1 hz2 rfl (by omega) va4 rb.length (rb.map (.int .i32)) rfl ((ro4.alloc _).drew)
        ⟨w4.heap.size, 0, none⟩ 1 1 [.int .i32 (s.arcs.length + 1)] rfl rfl (World.news_of_block (cs := #[.int .i32 (s.arcs.length + 1)]) (t := 21) (fr := (0, 0)) (heap_alloc_new w4 _)) (by simp [Value.oneCell'])
        (by omega) (by unfold maxLen; omega) (by omega) (Nat.zero_le _) (w4.heap.size + 1) (by simp) ?_
  intro g4 cap4 x4 hown4 hgrow4 hat4 hlt4
  refine hK _ _ (fun _ => ⟨cell_grown c24 (below_laid_drew _ _) hgrow4 X4.out.ne1, cell_grown c34 (below_laid_drew _ _) hgrow4 X4.out.ne1, cell_grown cn4 (below_laid_drew _ _) hgrow4 X4.out.ne2⟩) ?_
  clear hK K
  try simp only [Act.put, List.setIfInBounds_toArray, List.set_cons_zero, List.set_cons_succ]
  refine wpT_take (v := ?_) (by rfl) (by rfl) ?_ ?_
  rotate_left 1
  focus (intro w; go_simp; try with_reducible rfl)
  simp only [Act.put, List.setIfInBounds_toArray, List.set_cons_zero, List.set_cons_succ]
  refine wpT_last (by rfl) (by kernel_rfl) (fun K hK => ?_)
  have hc4 := cell_grown cn4 (below_laid_drew _ _) hgrow4 X4.out.ne2
  have hf4 := frozen_grown (cell_at cn4) X4.out.fn (below_laid_drew _ _) hgrow4 X4.out.ne2
  go_simp
  refine hK _ _ ?_
  clear hK K
  try simp only [Act.put, List.setIfInBounds_toArray, List.set_cons_zero, List.set_cons_succ]
  refine wpT_nil ?_
  refine NoPanic.normal ?_
  have y5 := Y4.out.pushRow (x := s.arcs.length + 1) HV4.out (below_laid_drew _ _) (by have := hown4; rw [HRB.out] at this; exact this) hgrow4 hat4 (by simp) hlt4
  have Y5 : Hid (FinAt (x4.setCell ⟨s.bNodes, b, none⟩ (.slice (some ⟨g4, 0, none⟩) (rb.length + 1) cap4)) (retag T4 g4 (100 + b)) (((s.pushRow a s.arcs.length (.slice (some ⟨g1, 0, none⟩) ((s.row a).length + 1) cap1)).pushArc ⟨b, full, full, cost⟩ (.slice (some ⟨g3, 0, none⟩) (s.arcs.length + 1) cap3)).pushRow b (s.arcs.length + 1) (.slice (some ⟨g4, 0, none⟩) (rb.length + 1) cap4))) := by rw [HRB.out]; exact y5.1
  have S5 : Hid (Step arcT w T (x4.setCell ⟨s.bNodes, b, none⟩ (.slice (some ⟨g4, 0, none⟩) (rb.length + 1) cap4)) (retag T4 g4 (100 + b))) := S4.out.trans (by rw [HRB.out]; exact y5.2)
  clear y5 hown4 hgrow4 hat4 hlt4 hc4 hf4 X4 HV4 c24 c34 cn4 lF4 lN4 ro4 Y4 S4 lrb
  generalize x4.setCell ⟨s.bNodes, b, none⟩ (.slice (some ⟨g4, 0, none⟩) (rb.length + 1) cap4) = w5 at *
  generalize retag T4 g4 (100 + b) = T5 at *
  clear x4 HRB
  obtain ⟨ao5, ac5, va5, hva5, x5⟩ := Y5.out.forArc ha
  have X5 : Hid _ := x5
  have c35 : w5.cell? ⟨s.F, 3, none⟩ = some (.slice ao5 (s.arcs.length + 1) ac5) := by have := x5.c3; simp only [FV.pushArc, FV.pushRow, List.length_append, List.length_cons, List.length_nil] at this; exact this
  have ev5 : (.slice (some ⟨g3, 0, none⟩) (s.arcs.length + 1) cap3 : Value) = .slice ao5 (s.arcs.length + 1) ac5 := by have := x5.eva; simp only [FV.pushArc, FV.pushRow, List.length_append, List.length_cons, List.length_nil] at this; exact this
  have ra5 : w5.ownsRow 0 67 4 (.slice ao5 (s.arcs.length + 1) ac5) (s.arcs.length + 1) ((s.arcs ++ [(⟨b, full, full, cost⟩ : Arc)]).flatMap Arc.cells) := by have := x5.ra; simp only [FV.pushArc, FV.pushRow, List.length_append, List.length_cons, List.length_nil] at this; rw [← ev5]; exact this
  have f35 : w5.frozen? ⟨s.F, 3, none⟩ = false := x5.f3
  have ne35 : (Value.slice ao5 (s.arcs.length + 1) ac5).ownBlock ≠ some s.F := by rw [← ev5]; exact x5.ne3
  have EV5 : Hid _ := ev5
  have hwc : IntKind.i8.wrap (-cost) = -cost := wrap_i8_in (by omega) (by omega)
  clear x5 hva5 ev5
  go_wp2_with (at_builtin; refine wpList_append_lies _ rfl _ _ _ rfl 0 67 j0 _ 4 8 Try.underlying69 hj0 hy0 hy1 hy2 rfl (by omega) (.slice ao5 (s.arcs.length + 1) ac5) (s.arcs.length + 1) ((s.arcs ++ [(⟨b, full, full, cost⟩ : Arc)]).flatMap Arc.cells) rfl (ra5.alloc _) ⟨w5.heap.size, 0, none⟩ 1 1 (Arc.cells ⟨a, 0, 0, -cost⟩) rfl rfl (World.news_of_block (cs := (Arc.cells ⟨a, 0, 0, -cost⟩).toArray) (t := 67) (fr := (0, 0)) (heap_alloc_new w5 _)) (by simp [Value.oneCell', Arc.cells]) (by omega) (by unfold maxLen; omega) (by omega) (Nat.zero_le _) (w5.heap.size + 1) (by simp) ?_; intro g6 cap6 x6 hown6 hgrow6 hat6 hlt6; have hc6 := cell_grown c35 (below_laid _ _) hgrow6 ne35; have hf6 := frozen_grown (cell_at c35) f35 (below_laid _ _) hgrow6 ne35)
  have y7 := Y5.out.pushArc (c := ⟨a, 0, 0, -cost⟩) (below_laid _ _) (by simp only [FV.pushArc, FV.pushRow, List.length_append, List.length_cons, List.length_nil]; exact hown6) (by rw [X5.out.eva]; simp only [FV.pushArc, FV.pushRow, List.length_append, List.length_cons, List.length_nil]; exact hgrow6) (by rw [X5.out.eva]; simp only [FV.pushArc, FV.pushRow, List.length_append, List.length_cons, List.length_nil]; exact hat6) (by simp) hlt6
  simp only [FV.pushArc, FV.pushRow, List.length_append, List.length_cons, List.length_nil] at y7
  go_end0
  exact ⟨rfl, _, _, _, y7.1, S5.out.trans y7.2⟩
end Go.Proofs.Qxb6605292a
