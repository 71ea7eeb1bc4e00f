/-
  ZZOpenSource (f20), ZZSetBlocked (f22), ZZAugment (f21) passes on.
-/
import Derived.Test.Qxb6605292aPush
namespace Go.Proofs.Qxb6605292a
open Go.RowKit

def OpenR (w : World) (T : Nat → Nat) (s : FV) (a : Nat) (e : Ending) (w' : World) : Prop := e = .returned (.tuple #[]) ∧ FinAt w' T (s.setRoom a 1) ∧ Step augT w T w' T
set_option maxRecDepth 100000 in
set_option maxHeartbeats 1600000 in
theorem openSource_any {w : World} {T : Nat → Nat} {s : FV} (h : FinAt w T s) (v a : Nat) (hv : v < s.n) (hs : s.source[v]? = some (a : Int)) (ha : a < s.arcs.length) :
    Calls Try.prog 20 #[.pointer (some ⟨s.F, 0, none⟩), .int .i64 v] w fun e w' => OpenR w T s a e w' := by
  obtain ⟨g, c, hva, c3, gc⟩ := h.arcV ha
  have gc1 : ∃ u, w.cell? ⟨g, a * 4 + 1, none⟩ = some u := ⟨_, gc 1 (by omega)⟩
  obtain ⟨u, gc1⟩ := gc1
  have e11 : s.R 11 = some (.slice (some ⟨g, 0, none⟩) s.arcs.length c, 67, 4, s.arcs.length, s.arcs.flatMap Arc.cells) := by rw [← hva]; simp [FV.R]
  have gf1 : w.frozen? ⟨g, a * 4 + 1, none⟩ = false := h.own.rfrozen e11 _
  have tg : T g = 11 := (h.own.row _ _ _ _ _ _ e11).2 g rfl
  have c4 : w.cell? ⟨s.F, 4, none⟩ = some (.slice (some ⟨s.bSource, 0, none⟩) s.n s.n) := h.f rfl
  have cs : w.cell? ⟨s.bSource, v, none⟩ = some (.int .i32 (a : Int)) := h.own.at (t := 4) (e := 21) (l := s.source.map (.int .i32)) (by simp [FV.A]) (by rw [List.getElem?_map, hs]; rfl)
  have HP : Hid (OpenR w T s a (.returned (.tuple #[])) (w.setCell ⟨g, a * 4 + 1, none⟩ (.int .i8 1)).drew) :=
    ⟨rfl, (h.setRoom hva ha 1).drew, ((Step.refl augT w T).set (b := g) (by rw [tg]; exact .inr (.inr (.inr (.inl rfl)))) _).drew⟩
  clear h gc e11 tg hs hva
  go_enter Try.func20, Try.ntmps20
  go_upto_region 0 with fail
  refine wp_region_noPanic ?_
  refine wp_region_T (fun w' => w'.cell? ⟨s.F, 3, none⟩ = some (.slice (some ⟨g, 0, none⟩) s.arcs.length c) ∧ w'.cell? ⟨s.F, 4, none⟩ = some (.slice (some ⟨s.bSource, 0, none⟩) s.n s.n) ∧ w'.cell? ⟨s.bSource, v, none⟩ = some (.int .i32 (a : Int)))
    [3, 7, 10] [13] [0, 1, 2, 3, 4, 5, 6, 7, 8, 9, 10, 11, 12, 13] (by kernel_rfl) (by kernel_rfl) rfl (by kernel_rfl) (fun _ _ _ _ _ h => h) ⟨c3, c4, cs⟩ ?_
  simp only [List.map_cons, List.map_nil, List.getElem?_toArray, List.getElem?_cons_succ, List.getElem?_cons_zero]
  iterate 3
    refine wpT_take (v := ?_) (by rfl) (by rfl) ?_ ?_
    rotate_left 1
    focus (intro w; go_simp; try with_reducible rfl)
    simp only [Act.put, List.setIfInBounds_toArray, List.set_cons_zero, List.set_cons_succ]
  refine wpT_held (v := ?_) (by rfl) (by rfl) (by rfl) ?_ ?_
  rotate_left 1
  focus (rintro w ⟨s1, s2, s3⟩; go_simp; try with_reducible rfl)
  simp only [Act.put, List.setIfInBounds_toArray, List.set_cons_zero, List.set_cons_succ]
  iterate 3
    refine wpT_take (v := ?_) (by rfl) (by rfl) ?_ ?_
    rotate_left 1
    focus (intro w; go_simp; try with_reducible rfl)
    simp only [Act.put, List.setIfInBounds_toArray, List.set_cons_zero, List.set_cons_succ]
  refine wpT_held (v := ?_) (by rfl) (by rfl) (by rfl) ?_ ?_
  rotate_left 1
  focus (rintro w ⟨s1, s2, s3⟩; go_simp; try with_reducible rfl)
  simp only [Act.put, List.setIfInBounds_toArray, List.set_cons_zero, List.set_cons_succ]
  iterate 2
    refine wpT_take (v := ?_) (by rfl) (by rfl) ?_ ?_
    rotate_left 1
    focus (intro w; go_simp; try with_reducible rfl)
    simp only [Act.put, List.setIfInBounds_toArray, List.set_cons_zero, List.set_cons_succ]
  refine wpT_held (v := ?_) (by rfl) (by rfl) (by rfl) ?_ ?_
  rotate_left 1
  focus (rintro w ⟨s1, s2, s3⟩; go_simp; try with_reducible rfl)
  simp only [Act.put, List.setIfInBounds_toArray, List.set_cons_zero, List.set_cons_succ]
  iterate 2
    refine wpT_take (v := ?_) (by rfl) (by rfl) ?_ ?_
    rotate_left 1
    focus (intro w; go_simp; try with_reducible rfl)
    simp only [Act.put, List.setIfInBounds_toArray, List.set_cons_zero, List.set_cons_succ]
  refine wpT_last (by rfl) (by kernel_rfl) (fun K hK => ?_)
  go_simp
  refine hK _ _ ?_
  clear hK K
  try simp only [Act.put, List.setIfInBounds_toArray, List.set_cons_zero, List.set_cons_succ]
  refine wpT_nil ?_
  refine NoPanic.normal ?_
  go_wp2
  exact bodyPost_ret (v := .tuple #[]) (by simp [results, Try.results20, go_sem]) rfl HP.out

def BlockR (w : World) (T : Nat → Nat) (s : FV) (v : Value) (e : Ending) (w' : World) : Prop := e = .returned (.tuple #[]) ∧ FinAt w' T { s with vBlocked := v } ∧ Step augT w T w' T
theorem setBlocked_any {w : World} {T : Nat → Nat} {s : FV} (h : FinAt w T s) (ao : Option Addr) (n c : Nat) : Calls Try.prog 22 #[.pointer (some ⟨s.F, 0, none⟩), .slice ao n c] w fun e w' => BlockR w T s (.slice ao n c) e w' := by
  have c6 : ∃ u, w.cell? ⟨s.F, 6, none⟩ = some u := ⟨_, h.f rfl⟩
  obtain ⟨u, c6⟩ := c6
  have f6 : w.frozen? ⟨s.F, 6, none⟩ = false := h.own.frozen (t := 1) (e := 73) (l := s.fields) (by simp [FV.A]) 6
  have tF : T s.F = 1 := (h.own.arr 1 s.F 73 s.fields (by simp [FV.A])).1
  have HP : Hid (BlockR w T s (.slice ao n c) (.returned (.tuple #[])) (w.setCell ⟨s.F, 6, none⟩ (.slice ao n c))) := ⟨rfl, h.setBlocked _, (Step.refl augT w T).set (b := s.F) (by rw [tF]; exact .inl rfl) _⟩
  clear h tF
  go_enter Try.func22, Try.ntmps22
  go_wp2
  exact bodyPost_ret (v := .tuple #[]) (by simp [results, Try.results22, go_sem]) rfl HP.out
end Go.Proofs.Qxb6605292a
