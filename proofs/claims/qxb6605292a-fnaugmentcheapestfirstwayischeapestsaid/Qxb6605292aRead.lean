/-
  What the shim reads of the finder (f28, f43 to f49, f51, f52, f55), and ZZFinder (f15).
-/
import Derived.Test.Qxb6605292aFinB
import Derived.Deep.QuietTactic
import Derived.BigQuiet
namespace Go.Proofs.Qxb6605292a
open Go.RowKit

theorem below_draws {B : Nat} {a w : World} (h : Below B a w) (q : Nat) : Below B a (w.drewN q) := ⟨h.os, h.tape, h.output, h.size, h.block⟩
section
variable {w : World} {T : Nat → Nat} {s : FV}
theorem FinAt.f (h : FinAt w T s) {o : Nat} {v : Value} (ho : s.fields[o]? = some v) : w.cell? ⟨s.F, o, none⟩ = some v := h.own.at (t := 1) (e := 73) (l := s.fields) (by simp [FV.A]) ho
theorem FinAt.arcsV (h : FinAt w T s) : ∃ ao c, s.vArcs = .slice ao s.arcs.length c := by
  obtain ⟨ao, c, e, _⟩ := ownsRow_slice (h.own.row 11 s.vArcs 67 4 s.arcs.length (s.arcs.flatMap Arc.cells) (by simp [FV.R])).1
  exact ⟨ao, c, e⟩
theorem FinAt.touchedV (h : FinAt w T s) : ∃ ao c, s.vTouched = .slice ao s.touched.length c := by
  obtain ⟨ao, c, e, _⟩ := ownsRow_slice (h.own.row 12 s.vTouched 21 1 s.touched.length (s.touched.map (.int .i32)) (by simp [FV.R])).1
  exact ⟨ao, c, e⟩

theorem outLen_any (h : FinAt w T s) : Calls Try.prog 43 #[.pointer (some ⟨s.F, 0, none⟩)] w fun e w' => e = .returned (.int .i64 s.n) ∧ w' = w := by
  have g : w.cell? ⟨s.F, 1, none⟩ = some (.slice (some ⟨s.bOut, 0, none⟩) s.n s.n) := h.f rfl
  clear h
  go_enter Try.func43, Try.ntmps43
  go_wp2
  go_ret
  exact ⟨rfl, rfl⟩
theorem out_any (h : FinAt w T s) (v : Nat) (hv : v < s.n) : Calls Try.prog 44 #[.pointer (some ⟨s.F, 0, none⟩), .int .i64 v] w fun e w' => e = .returned (.bool (isOut s.out v)) ∧ w' = w := by
  have g : w.cell? ⟨s.F, 1, none⟩ = some (.slice (some ⟨s.bOut, 0, none⟩) s.n s.n) := h.f rfl
  have g2 : w.cell? ⟨s.bOut, v, none⟩ = some (.bool (isOut s.out v)) := h.own.at (t := 2) (e := 4) (l := s.out.map .bool) (by simp [FV.A]) (by simp [isOut, h.len.out, hv])
  generalize isOut s.out v = b at *
  clear h
  go_enter Try.func44, Try.ntmps44
  go_wp2
  go_ret
  exact ⟨rfl, rfl⟩
theorem blockedNil_any (h : FinAt w T s) (ao : Option Addr) (n c : Nat) (hb : s.vBlocked = .slice ao n c) : Calls Try.prog 45 #[.pointer (some ⟨s.F, 0, none⟩)] w fun e w' => e = .returned (.bool ao.isNone) ∧ w' = w := by
  have g : w.cell? ⟨s.F, 6, none⟩ = some (.slice ao n c) := by rw [← hb]; exact h.f rfl
  have q36 : ∀ (w : World) (a : Option Addr) (n c : Nat), (binOp .eql 36 (.slice a n c) (.slice none 0 0)).run Try.prog w = .ok (.bool a.isNone) w := fun w a n c => Lib.run_eql_slice_nil w _ _ a n c _ _ Try.underlying36
  clear h hb
  go_enter Try.func45, Try.ntmps45
  go_wp2
  go_ret
  exact ⟨rfl, rfl⟩
theorem nodeCount_any (h : FinAt w T s) : Calls Try.prog 46 #[.pointer (some ⟨s.F, 0, none⟩)] w fun e w' => e = .returned (.int .i64 s.V) ∧ w' = w := by
  have g : w.cell? ⟨s.F, 2, none⟩ = some (.slice (some ⟨s.bNodes, 0, none⟩) s.V s.V) := h.f rfl
  clear h
  go_enter Try.func46, Try.ntmps46
  go_wp2
  go_ret
  exact ⟨rfl, rfl⟩
theorem touchedLen_any (h : FinAt w T s) : Calls Try.prog 28 #[.pointer (some ⟨s.F, 0, none⟩)] w fun e w' => e = .returned (.int .i64 s.touched.length) ∧ w' = w := by
  obtain ⟨ao, c, hv⟩ := h.touchedV
  have g : w.cell? ⟨s.F, 5, none⟩ = some (.slice ao s.touched.length c) := by rw [← hv]; exact h.f rfl
  clear h hv
  go_enter Try.func28, Try.ntmps28
  go_wp2
  go_ret
  exact ⟨rfl, rfl⟩
theorem arcCount_any (h : FinAt w T s) : Calls Try.prog 51 #[.pointer (some ⟨s.F, 0, none⟩)] w fun e w' => e = .returned (.int .i64 s.arcs.length) ∧ w' = w := by
  obtain ⟨ao, c, hv⟩ := h.arcsV
  have g : w.cell? ⟨s.F, 3, none⟩ = some (.slice ao s.arcs.length c) := by rw [← hv]; exact h.f rfl
  clear h hv
  go_enter Try.func51, Try.ntmps51
  go_wp2
  go_ret
  exact ⟨rfl, rfl⟩
theorem source_any (h : FinAt w T s) (v : Nat) (hv : v < s.n) : Calls Try.prog 49 #[.pointer (some ⟨s.F, 0, none⟩), .int .i64 v] w fun e w' => e = .returned (.int .i32 (s.source.getD v 0)) ∧ w' = w := by
  have g : w.cell? ⟨s.F, 4, none⟩ = some (.slice (some ⟨s.bSource, 0, none⟩) s.n s.n) := h.f rfl
  have g2 : w.cell? ⟨s.bSource, v, none⟩ = some (.int .i32 (s.source.getD v 0)) := h.own.at (t := 4) (e := 21) (l := s.source.map (.int .i32)) (by simp [FV.A]) (by simp [h.len.source, hv])
  generalize s.source.getD v 0 = b at *
  clear h
  go_enter Try.func49, Try.ntmps49
  go_wp2
  go_ret
  exact ⟨rfl, rfl⟩
theorem FinAt.nodeV (h : FinAt w T s) {x : Nat} (hx : x < s.V) : ∃ ao c, s.vNodes[x]? = some (.slice ao (s.row x).length c) ∧ w.cell? ⟨s.bNodes, x, none⟩ = some (.slice ao (s.row x).length c) := by
  have hl := h.len.vNodes
  have hv : s.vNodes[x]? = some (s.vNodes[x]'(by omega)) := by simp [hl, hx]
  obtain ⟨ao, c, e, _⟩ := ownsRow_slice (h.own.row _ _ _ _ _ _ (s.R_row hv)).1
  rw [e] at hv
  exact ⟨ao, c, hv, h.own.at (t := 3) (e := 45) (l := s.vNodes) (by simp [FV.A]) hv⟩
theorem nodeLen_any (h : FinAt w T s) (x : Nat) (hx : x < s.V) : Calls Try.prog 47 #[.pointer (some ⟨s.F, 0, none⟩), .int .i64 x] w fun e w' => e = .returned (.int .i64 (s.row x).length) ∧ w' = w := by
  have g : w.cell? ⟨s.F, 2, none⟩ = some (.slice (some ⟨s.bNodes, 0, none⟩) s.V s.V) := h.f rfl
  obtain ⟨ao, c, _, g2⟩ := h.nodeV hx
  clear h
  go_enter Try.func47, Try.ntmps47
  go_wp2
  go_ret
  exact ⟨rfl, rfl⟩
theorem nodeArc_any (h : FinAt w T s) (x j : Nat) (hx : x < s.V) (hj : j < (s.row x).length) : Calls Try.prog 48 #[.pointer (some ⟨s.F, 0, none⟩), .int .i64 x, .int .i64 j] w fun e w' => e = .returned (.int .i32 ((s.row x).getD j 0)) ∧ w' = w := by
  have g : w.cell? ⟨s.F, 2, none⟩ = some (.slice (some ⟨s.bNodes, 0, none⟩) s.V s.V) := h.f rfl
  obtain ⟨ao, c, hv, g2⟩ := h.nodeV hx
  obtain ⟨b, c', e, _, _⟩ := h.own.rform (s.R_row hv) (by omega)
  cases e
  have g3 : w.cell? ⟨b, j, none⟩ = some (.int .i32 ((s.row x).getD j 0)) := by
    rw [h.own.rcell (s.R_row hv) (by omega)]
    simp [hj]
  generalize (s.row x).getD j 0 = r at *
  clear h hv
  go_enter Try.func48, Try.ntmps48
  go_wp2
  go_ret
  exact ⟨rfl, rfl⟩
theorem touched_any (h : FinAt w T s) (j : Nat) (hj : j < s.touched.length) : Calls Try.prog 55 #[.pointer (some ⟨s.F, 0, none⟩), .int .i64 j] w fun e w' => e = .returned (.int .i32 (s.touched.getD j 0)) ∧ w' = w := by
  have e12 : s.R 12 = some (s.vTouched, 21, 1, s.touched.length, s.touched.map (.int .i32)) := by simp [FV.R]
  obtain ⟨b, c, e, _, _⟩ := h.own.rform e12 (by omega)
  have g : w.cell? ⟨s.F, 5, none⟩ = some (.slice (some ⟨b, 0, none⟩) s.touched.length c) := by rw [← e]; exact h.f rfl
  rw [e] at e12
  have g3 : w.cell? ⟨b, j, none⟩ = some (.int .i32 (s.touched.getD j 0)) := by
    rw [h.own.rcell e12 (by omega)]
    simp [hj]
  generalize s.touched.getD j 0 = r at *
  clear h e12 e
  go_enter Try.func55, Try.ntmps55
  go_wp2
  go_ret
  exact ⟨rfl, rfl⟩

theorem arcCells_get (l : List Arc) (a j : Nat) (ha : a < l.length) (hj : j < 4) : (l.flatMap Arc.cells)[a * 4 + j]? = (l[a].cells)[j]? := by
  induction l generalizing a with
  | nil => simp at ha
  | cons x l ih =>
    rw [List.flatMap_cons]
    cases a with
    | zero =>
      rw [List.getElem?_append_left (by simp [Arc.cells]; omega)]
      simp
    | succ a =>
      have hl : x.cells.length = 4 := rfl
      rw [List.getElem?_append_right (by rw [hl]; omega), hl]
      have e : (a + 1) * 4 + j - 4 = a * 4 + j := by omega
      rw [e, ih a (by simpa using ha)]
      simp
theorem FinAt.arcV (h : FinAt w T s) {a : Nat} (ha : a < s.arcs.length) : ∃ g c, s.vArcs = .slice (some ⟨g, 0, none⟩) s.arcs.length c ∧
    w.cell? ⟨s.F, 3, none⟩ = some (.slice (some ⟨g, 0, none⟩) s.arcs.length c) ∧ ∀ j, j < 4 → w.cell? ⟨g, a * 4 + j, none⟩ = (s.arcs[a].cells)[j]? := by
  have e11 : s.R 11 = some (s.vArcs, 67, 4, s.arcs.length, s.arcs.flatMap Arc.cells) := by simp [FV.R]
  obtain ⟨b, c, e, _, _⟩ := h.own.rform e11 (by omega)
  rw [e] at e11
  exact ⟨b, c, e, by rw [← e]; exact h.f rfl, fun j hj => by rw [h.own.rcell e11 (by omega), arcCells_get _ _ _ ha hj]⟩

set_option maxHeartbeats 400000 in
theorem arcAt_any (h : FinAt w T s) (a : Nat) (ha : a < s.arcs.length) : Calls Try.prog 52 #[.pointer (some ⟨s.F, 0, none⟩), .int .i64 a] w fun e w' =>
    e = .returned (.tuple #[.int .i32 s.arcs[a].to, .int .i8 s.arcs[a].room, .int .i8 s.arcs[a].full, .int .i8 s.arcs[a].cost]) ∧ Below w.heap.size w w' := by
  obtain ⟨b, c, _, g, gc⟩ := h.arcV ha
  have hlt : s.F < w.heap.size := cell_at g
  generalize s.arcs[a] = x at *
  have g0 : w.cell? ⟨b, a * 4, none⟩ = some (.int .i32 x.to) := gc 0 (by omega)
  have g1 : w.cell? ⟨b, a * 4 + 1, none⟩ = some (.int .i8 x.room) := gc 1 (by omega)
  have g2 : w.cell? ⟨b, a * 4 + 2, none⟩ = some (.int .i8 x.full) := gc 2 (by omega)
  have g3 : w.cell? ⟨b, a * 4 + 3, none⟩ = some (.int .i8 x.cost) := gc 3 (by omega)
  clear gc h
  go_enter Try.func52, Try.ntmps52
  go_wp2
  go_quiet (fail)
  go_wp2
  exact bodyPost_ret (v := .tuple #[.int .i32 x.to, .int .i8 x.room, .int .i8 x.full, .int .i8 x.cost]) (by simp [results, Try.results52, go_sem]) rfl ⟨rfl, below_draws (below_laid _ _) _⟩
end
/-- ZZFinder passes on. -/
theorem zzfinder_any {G i : Nat} {ao : Option Addr} {n c : Nat} {w : World} {R : Ending → World → Prop} (h : Calls Try.prog 41 #[ptr0 G, .slice ao n c, .int .i64 i] w fun e w' => (∃ F, e = .returned (ptr0 F)) ∧ R e w') :
    Calls Try.prog 15 #[ptr0 G, .slice ao n c, .int .i64 i] w R := by
  have H : Hid (Calls Try.prog 41 #[.pointer (some ⟨G, 0, none⟩), .slice ao n c, .int .i64 i] w fun e w' => (∃ F, e = .returned (ptr0 F)) ∧ R e w') := h
  clear h
  unfold ptr0
  go_enter Try.func15, Try.ntmps15
  go_wp2_with fail
  refine H.out.mono ?_
  rintro e w' ⟨⟨F, rfl⟩, hr⟩
  have HR : Hid (R (.returned (ptr0 F)) w') := hr
  clear hr H
  unfold ptr0
  go_wp2
  exact HR.out

/-- A new row of bools is handed back. -/
def BoolsR (w : World) (l : List Bool) (e : Ending) (w' : World) : Prop := ∃ g, e = .returned (.slice (some ⟨g, 0, none⟩) l.length l.length) ∧ Rw w' g 4 (l.map .bool) ∧ w.heap.size ≤ g ∧ Below w.heap.size w w'

set_option maxHeartbeats 400000 in
theorem outSet_any (n i : Nat) (v : Value) (ws : List Int) (w : World) (hv : KSl .i64 w v ws) (hin : inR n ws = true) (hi : i < n) (hn : n ≤ 256) :
    Calls Try.prog 19 #[.int .i64 n, v, .int .i64 i] w fun e w' => BoolsR w (outL n ws i) e w' := by
  obtain ⟨i0, hi0, hz0, hz1, hz2⟩ := info_parts Try.info4
  obtain ⟨ao, cap, rfl, hm, hnil, hcell⟩ := hv
  unfold maxLen at hm
  clear hnil
  have HC : Hid (∀ i, (hi : i < ws.length) → ∃ b off, ao = some ⟨b, off, none⟩ ∧ w.cell? ⟨b, off + i, none⟩ = some (.int .i64 ws[i])) := hcell
  have HWI : Hid (inR n ws = true) := hin
  clear hcell hin
  obtain ⟨H, hH⟩ := size_name w
  have HH : Hid (w.heap.size = H) := hH
  clear hH
  go_enter Try.func19, Try.ntmps19
  go_wp2_with (at_make; refine wpList_mk _ rfl _ _ _ rfl 4 i0 (.bool false) 1 Try.underlying36 hi0 hz0 hz1 hz2 rfl _ _ _ _ n rfl rfl rfl rfl (by omega) (by unfold maxLen; omega) H HH.out ?_; intro w1 hr hb hsz)
  have HB : Hid (Below H w w1) := hb
  have HR : Hid (Rw w1 H 4 ((List.replicate n false).map .bool)) := by show Rw _ _ _ _; simpa using hr
  clear hb hr hsz
  go_wp2
  go_loopw [8] (fun c wr => ∃ (k : Nat) (l : List Bool), k ≤ ws.length ∧ c = .int .i64 k ∧ Hid (Rw wr H 4 (l.map .bool) ∧ l = markAll (List.replicate n false) (ws.take k) ∧ Below H w wr)) (fun c _ => ws.length - (intOf c).toNat)
  case atStart => exact ⟨0, List.replicate n false, Nat.zero_le _, rfl, HR.out, rfl, HB.out⟩
  case round =>
    obtain ⟨k, l, hk, rfl, hh⟩ := hrel
    clear HR HB
    obtain ⟨r1, r2, r3⟩ := hh.out
    have hl : l.length = n := by rw [r2, markAll_len]; simp
    by_cases hlt : k < ws.length
    · obtain ⟨b, off, rfl, hc⟩ := HC.out k hlt
      obtain ⟨z, hz⟩ : ∃ z : Nat, ws[k] = (z : Int) := Int.eq_ofNat_of_zero_le (inR_get HWI.out hlt).1
      have hzn : z < n := by have := (inR_get HWI.out hlt).2; omega
      have hlt' : b < H := by rw [← HH.out]; exact cell_at hc
      have c1 : wr.cell? ⟨b, off + k, none⟩ = some (.int .i64 (z : Int)) := by rw [(bcell r3).1 b (off + k) hlt', hc, hz]
      obtain ⟨u2, c2⟩ := r1.there (o := z) (by simp; omega)
      have c3 : wr.frozen? ⟨H, z, none⟩ = false := r1.frozen z
      have HN : Hid (Rw (wr.setCell ⟨H, z, none⟩ (.bool true)) H 4 ((l.set z true).map .bool) ∧ l.set z true = markAll (List.replicate n false) (ws.take (k + 1)) ∧ Below H w (wr.setCell ⟨H, z, none⟩ (.bool true))) := by
        refine ⟨?_, ?_, r3.setCell (Nat.le_refl _) _⟩
        · rw [List.map_set]; exact r1.set z _
        · rw [markAll_take _ _ _ hlt, r2, hz, Int.toNat_natCast]
      clear r1 r2 r3 hh HC hc hz hl
      go_wp2
      go_roundw
      case rel => exact ⟨k + 1, _, by omega, by go_num, HN⟩
      case measure => simp [intOf]; omega
    · obtain ⟨u2, c2⟩ := r1.there (o := i) (by simp; omega)
      have c3 : wr.frozen? ⟨H, i, none⟩ = false := r1.frozen i
      have HN : Hid (BoolsR w (outL n ws i) (.returned (.slice (some ⟨H, 0, none⟩) n n)) (wr.setCell ⟨H, i, none⟩ (.bool true))) := by
        have e : outL n ws i = l.set i true := by unfold outL; rw [r2, List.take_of_length_le (by omega)]
        refine ⟨H, by rw [outL_len], ?_, by rw [HH.out]; exact Nat.le_refl _, by rw [HH.out]; exact r3.setCell (Nat.le_refl _) _⟩
        rw [e, List.map_set]; exact r1.set i _
      clear r1 r2 r3 hh HC hl
      go_wp2
      go_ret
      exact HN.out

theorem Try.info56 : (Try.prog.info? 56).map (fun i => (i.zero, i.size, i.bytes)) = some (some (.int .i8 0), 1, 1) := by kernel_rfl
/-- The arcs, read into four new rows. -/
def ArcsR (w : World) (l : List Arc) (e : Ending) (w' : World) : Prop :=
  ∃ g1 g2 g3 g4, e = .returned (.tuple #[at0 g1 l.length, at0 g2 l.length, at0 g3 l.length, at0 g4 l.length]) ∧
    Rw w' g1 21 ((l.map Arc.to).map (.int .i32)) ∧ Rw w' g2 56 ((l.map Arc.room).map (.int .i8)) ∧ Rw w' g3 56 ((l.map Arc.full).map (.int .i8)) ∧ Rw w' g4 56 ((l.map Arc.cost).map (.int .i8)) ∧
    w.heap.size ≤ g1 ∧ w.heap.size ≤ g2 ∧ w.heap.size ≤ g3 ∧ w.heap.size ≤ g4 ∧ Below w.heap.size w w'
/-- A row filled up to k. -/
def upto (l : List Int) (k : Nat) : List Int := l.take k ++ List.replicate (l.length - k) 0
theorem upto_len (l : List Int) (k : Nat) : (upto l k).length = l.length := by simp [upto]; omega
theorem upto_zero (l : List Int) : upto l 0 = List.replicate l.length 0 := by simp [upto]
theorem upto_all (l : List Int) (k : Nat) (h : l.length ≤ k) : upto l k = l := by simp [upto, List.take_of_length_le h, show l.length - k = 0 by omega]
theorem upto_set (l : List Int) (k : Nat) (h : k < l.length) : (upto l k).set k l[k] = upto l (k + 1) := by
  apply List.ext_getElem?
  intro j
  by_cases e : k = j
  · subst e
    rw [List.getElem?_set_self (by rw [upto_len]; exact h)]
    unfold upto
    rw [List.getElem?_append_left (by simp; omega), List.getElem?_take, if_pos (by omega)]
    simp [h]
  · rw [List.getElem?_set_ne e]
    unfold upto
    by_cases hj : j < k
    · rw [List.getElem?_append_left (by simp; omega), List.getElem?_append_left (by simp; omega), List.getElem?_take, List.getElem?_take, if_pos hj, if_pos (by omega)]
    · rw [List.getElem?_append_right (by simp; omega), List.getElem?_append_right (by simp; omega), List.getElem?_replicate, List.getElem?_replicate]
      simp only [List.length_take]
      by_cases h2 : j < l.length
      · rw [if_pos (by omega), if_pos (by omega)]
      · rw [if_neg (by omega), if_neg (by omega)]
/-- What zzArcs's loop holds. -/
structure ArcsI (w : World) (H : Nat) (l : List Arc) (k : Nat) (wr : World) : Prop where
  b : Below H w wr
  r1 : Rw wr H 21 ((upto (l.map Arc.to) k).map (.int .i32))
  r2 : Rw wr (H + 1) 56 ((upto (l.map Arc.room) k).map (.int .i8))
  r3 : Rw wr (H + 2) 56 ((upto (l.map Arc.full) k).map (.int .i8))
  r4 : Rw wr (H + 3) 56 ((upto (l.map Arc.cost) k).map (.int .i8))
theorem ArcsI.later {w : World} {H : Nat} {l : List Arc} {k : Nat} {wr w2 : World} (h : ArcsI w H l k wr) (hb : Below wr.heap.size wr w2) : ArcsI w H l k w2 :=
  ⟨h.b.trans (hb.mono (Nat.le_of_lt h.r1.lt)), h.r1.below hb h.r1.lt, h.r2.below hb h.r2.lt, h.r3.below hb h.r3.lt, h.r4.below hb h.r4.lt⟩
theorem ArcsI.step {w : World} {H : Nat} {l : List Arc} {k : Nat} {wr : World} (h : ArcsI w H l k wr) (hk : k < l.length) :
    ArcsI w H l (k + 1) ((((wr.setCell ⟨H, k, none⟩ (.int .i32 l[k].to)).setCell ⟨H + 1, k, none⟩ (.int .i8 l[k].room)).setCell ⟨H + 2, k, none⟩ (.int .i8 l[k].full)).setCell ⟨H + 3, k, none⟩ (.int .i8 l[k].cost)) := by
  have key : ∀ (f : Arc → Int) (c : IntKind), ((upto (l.map f) k).map (Value.int c)).set k (.int c (f l[k])) = (upto (l.map f) (k + 1)).map (.int c) := fun f c => by
    rw [← List.map_set, ← upto_set (l.map f) k (by simpa using hk)]
    simp
  refine ⟨(((h.b.setCell (p := ⟨H, k, none⟩) (Nat.le_refl _) _).setCell (p := ⟨H + 1, k, none⟩) (by show H ≤ H + 1; omega) _).setCell (p := ⟨H + 2, k, none⟩) (by show H ≤ H + 2; omega) _).setCell (p := ⟨H + 3, k, none⟩) (by show H ≤ H + 3; omega) _, ?_, ?_, ?_, ?_⟩
  · rw [← key]; exact (((h.r1.set k _).set_ne (p := ⟨H + 1, k, none⟩) (by show H ≠ H + 1; omega) _).set_ne (p := ⟨H + 2, k, none⟩) (by show H ≠ H + 2; omega) _).set_ne (p := ⟨H + 3, k, none⟩) (by show H ≠ H + 3; omega) _
  · rw [← key]; exact ((((h.r2.set_ne (p := ⟨H, k, none⟩) (by show H + 1 ≠ H; omega) _).set k _).set_ne (p := ⟨H + 2, k, none⟩) (by show H + 1 ≠ H + 2; omega) _).set_ne (p := ⟨H + 3, k, none⟩) (by show H + 1 ≠ H + 3; omega) _)
  · rw [← key]; exact ((((h.r3.set_ne (p := ⟨H, k, none⟩) (by show H + 2 ≠ H; omega) _).set_ne (p := ⟨H + 1, k, none⟩) (by show H + 2 ≠ H + 1; omega) _).set k _).set_ne (p := ⟨H + 3, k, none⟩) (by show H + 2 ≠ H + 3; omega) _)
  · rw [← key]; exact ((((h.r4.set_ne (p := ⟨H, k, none⟩) (by show H + 3 ≠ H; omega) _).set_ne (p := ⟨H + 1, k, none⟩) (by show H + 3 ≠ H + 1; omega) _).set_ne (p := ⟨H + 2, k, none⟩) (by show H + 3 ≠ H + 2; omega) _).set k _)

set_option maxHeartbeats 800000 in
theorem arcs_any {w : World} {T : Nat → Nat} {s : FV} (h : FinAt w T s) (hl : s.arcs.length ≤ 1000000) : Calls Try.prog 27 #[.pointer (some ⟨s.F, 0, none⟩)] w fun e w' => ArcsR w s.arcs e w' := by
  obtain ⟨i0, hi0, hz0, hz1, hz2⟩ := info_parts Try.info21
  obtain ⟨j0, hj0, hy0, hy1, hy2⟩ := info_parts Try.info56
  have HF : Hid (FinAt w T s) := h
  obtain ⟨H, hH⟩ := size_name w
  have HH : Hid (w.heap.size = H) := hH
  clear hH h
  go_enter Try.func27, Try.ntmps27
  go_wp2_with fail
  refine (arcCount_any HF.out).mono ?_
  rintro e w' ⟨rfl, rfl⟩
  generalize hA : s.arcs = l at *
  have HA : Hid (s.arcs = l) := hA
  clear hA
  go_wp2_with (first
    | (at_make; refine wpList_mk _ rfl (.tmp 14) _ _ rfl 21 i0 (.int .i32 0) 4 Try.underlying45 hi0 hz0 hz1 hz2 rfl _ _ _ _ l.length rfl rfl rfl rfl (by omega) (by unfold maxLen; omega) H HH.out ?_; intro w1 hr1 hb1 hs1)
    | (at_make; refine wpList_mk _ rfl (.tmp 16) _ _ rfl 56 j0 (.int .i8 0) 1 Try.underlying46 hj0 hy0 hy1 hy2 rfl _ _ _ _ l.length rfl rfl rfl rfl (by omega) (by unfold maxLen; omega) (H + 1) hs1 ?_; intro w2 hr2 hb2 hs2)
    | (at_make; refine wpList_mk _ rfl (.tmp 18) _ _ rfl 56 j0 (.int .i8 0) 1 Try.underlying46 hj0 hy0 hy1 hy2 rfl _ _ _ _ l.length rfl rfl rfl rfl (by omega) (by unfold maxLen; omega) (H + 2) hs2 ?_; intro w3 hr3 hb3 hs3)
    | (at_make; refine wpList_mk _ rfl (.tmp 20) _ _ rfl 56 j0 (.int .i8 0) 1 Try.underlying46 hj0 hy0 hy1 hy2 rfl _ _ _ _ l.length rfl rfl rfl rfl (by omega) (by unfold maxLen; omega) (H + 3) hs3 ?_; intro w4 hr4 hb4 hs4))
  have HI : Hid (ArcsI w' H l 0 w4) := by
    refine ⟨((hb1.trans (hb2.mono (by omega))).trans (hb3.mono (by omega))).trans (hb4.mono (by omega)), ?_, ?_, ?_, ?_⟩
    · rw [upto_zero]; simpa using ((hr1.below hb2 (by omega)).below hb3 (by omega)).below hb4 (by omega)
    · rw [upto_zero]; simpa using ((hr2.below hb3 (by omega)).below hb4 (by omega))
    · rw [upto_zero]; simpa using (hr3.below hb4 (by omega))
    · rw [upto_zero]; simpa using hr4
  clear hr1 hb1 hs1 hr2 hb2 hs2 hr3 hb3 hs3 hr4 hb4 hs4
  go_wp2
  go_loopw [7] (fun c wr => ∃ k : Nat, k ≤ l.length ∧ c = .int .i64 k ∧ Hid (ArcsI w' H l k wr)) (fun c _ => l.length - (intOf c).toNat)
  case atStart => exact ⟨0, Nat.zero_le _, rfl, HI⟩
  case round =>
    obtain ⟨k, hk, rfl, hh⟩ := hrel
    clear HI
    by_cases hlt : k < l.length
    · have HFr : Hid (FinAt wr T s) := HF.out.later (by rw [HH.out]; exact hh.out.b)
      go_wp2_with fail
      refine (arcAt_any HFr.out k (by rw [HA.out]; exact hlt)).mono ?_
      rintro e w2 ⟨rfl, hb2⟩
      have ex : s.arcs[k]'(by rw [HA.out]; exact hlt) = l[k] := by simp only [HA.out]
      rw [ex]
      have hi2 := hh.out.later hb2
      have HN : Hid (ArcsI w' H l (k + 1) _) := hi2.step hlt
      obtain ⟨u1, c1⟩ := hi2.r1.there (o := k) (by simp [upto_len]; omega)
      obtain ⟨u2, c2⟩ := hi2.r2.there (o := k) (by simp [upto_len]; omega)
      obtain ⟨u3, c3⟩ := hi2.r3.there (o := k) (by simp [upto_len]; omega)
      obtain ⟨u4, c4⟩ := hi2.r4.there (o := k) (by simp [upto_len]; omega)
      have f1 : w2.frozen? ⟨H, k, none⟩ = false := hi2.r1.frozen k
      have f2 : w2.frozen? ⟨H + 1, k, none⟩ = false := hi2.r2.frozen k
      have f3 : w2.frozen? ⟨H + 2, k, none⟩ = false := hi2.r3.frozen k
      have f4 : w2.frozen? ⟨H + 3, k, none⟩ = false := hi2.r4.frozen k
      clear hi2 hb2 hh ex HFr
      generalize l[k] = x at *
      go_wp2
      go_roundw
      case rel => exact ⟨k + 1, by omega, by go_num, HN⟩
      case measure => simp [intOf]; omega
    · have hkl : l.length ≤ k := by omega
      have HN : Hid (ArcsR w' l (.returned (.tuple #[at0 H l.length, at0 (H + 1) l.length, at0 (H + 2) l.length, at0 (H + 3) l.length])) wr) := by
        obtain ⟨b, r1, r2, r3, r4⟩ := hh.out
        rw [upto_all _ _ (by simpa using hkl)] at r1 r2 r3 r4
        have := HH.out
        exact ⟨H, H + 1, H + 2, H + 3, rfl, r1, r2, r3, r4, by omega, by omega, by omega, by omega, by rw [HH.out]; exact b⟩
      clear hh
      go_wp2
      refine bodyPost_ret (v := .tuple #[at0 H l.length, at0 (H + 1) l.length, at0 (H + 2) l.length, at0 (H + 3) l.length]) (by simp [results, Try.results27, go_sem, at0]) rfl ?_
      rw [HA.out]
      exact HN.out
end Go.Proofs.Qxb6605292a
