/-
  (*finder).push (f60).
-/
import Derived.Test.Qxb6605292aOps2
import Derived.Test.Qxb6605292aRead
namespace Go.Proofs.Qxb6605292a
open Go.RowKit

def twin (a : Nat) : Nat := if a % 2 = 0 then a + 1 else a - 1
theorem twin_ne (a : Nat) : twin a ≠ a := by unfold twin; split <;> omega
theorem twin_twin (a : Nat) : twin (twin a) = a := by unfold twin; split <;> split <;> omega
theorem twin_lt {a m : Nat} (h : a < 2 * m) : twin a < 2 * m := by unfold twin; split <;> omega
theorem xor_one (a : Nat) : a ^^^ 1 = twin a := by
  have h1 : (a ^^^ 1) / 2 = a / 2 := by rw [Nat.xor_div_two]; simp
  have h2 : (a ^^^ 1) % 2 = 1 ↔ ¬ a % 2 = 1 := by rw [Nat.mod_two_eq_one_iff_testBit_zero, Nat.mod_two_eq_one_iff_testBit_zero, Nat.testBit_xor]; simp
  unfold twin
  split <;> omega
theorem bits_twin (a : Nat) (h : a < 1073741824) : bits .xor .i32 (a : Int) 1 = (twin a : Int) := by
  rw [← xor_one]
  have hx : a ^^^ 1 < 2 ^ 30 := Nat.xor_lt_two_pow (by omega) (by omega)
  have h1 : (BitVec.ofInt 32 (a : Int)).toNat = a := by
    rw [BitVec.ofInt_natCast, BitVec.toNat_ofNat]; exact Nat.mod_eq_of_lt (by omega)
  have h2 : (BitVec.ofInt 32 (1 : Int)).toNat = 1 := rfl
  show IntKind.i32.wrap ((BitVec.ofInt 32 (a : Int) ^^^ BitVec.ofInt 32 (1 : Int)).toNat : Int) = _
  rw [BitVec.toNat_xor, h1, h2, IntKind.wrap_i32]
  omega

def roomAt (l : List Arc) (a : Nat) : Int := match l[a]? with
  | some x => x.room
  | none => 0
theorem roomAt_get {l : List Arc} {a : Nat} (h : a < l.length) : roomAt l a = l[a].room := by unfold roomAt; rw [List.getElem?_eq_getElem h]
theorem setRm_same (l : List Arc) (a : Nat) (r : Int) (h : a < l.length) : roomAt (setRm l a r) a = r := by
  unfold roomAt setRm
  rw [List.getElem?_modify]
  simp [h]
theorem setRm_ne (l : List Arc) {a b : Nat} (r : Int) (h : a ≠ b) : roomAt (setRm l a r) b = roomAt l b := by
  unfold roomAt setRm
  rw [List.getElem?_modify]
  simp [h]
/-- One unit along arc a. -/
def pushAt (l : List Arc) (a : Nat) : List Arc := setRm (setRm l a (roomAt l a - 1)) (twin a) (roomAt l (twin a) + 1)
theorem pushAt_len (l : List Arc) (a : Nat) : (pushAt l a).length = l.length := by simp [pushAt, setRm_len]
/-- The tags that a search turns. -/
def augT (t : Nat) : Prop := t = 1 ∨ t = 7 ∨ t = 10 ∨ t = 11 ∨ t = 12 ∨ t = 13
def FV.pushed (s : FV) (a : Nat) (v : Value) : FV := { s with arcs := pushAt s.arcs a, vTouched := v, touched := s.touched ++ [(a : Int), (twin a : Int)] }
def PushR (w : World) (T : Nat → Nat) (s : FV) (a : Nat) (e : Ending) (w' : World) : Prop := e = .returned (.tuple #[]) ∧ ∃ T' v, FinAt w' T' (s.pushed a v) ∧ Step augT w T w' T'

set_option maxRecDepth 100000 in
set_option maxHeartbeats 1600000 in
theorem push_any {w : World} {T : Nat → Nat} {s : FV} (h : FinAt w T s) (a : Nat) (ha : a < s.arcs.length) (ht : twin a < s.arcs.length) (hm : s.arcs.length ≤ 1000000) (htl : s.touched.length ≤ 1000000000)
    (hr0 : 0 ≤ roomAt s.arcs a) (hr1 : roomAt s.arcs a ≤ 1) (hq0 : 0 ≤ roomAt s.arcs (twin a)) (hq1 : roomAt s.arcs (twin a) ≤ 1) :
    Calls Try.prog 60 #[.pointer (some ⟨s.F, 0, none⟩), .int .i32 a] w fun e w' => PushR w T s a e w' := by
  obtain ⟨i0, hi0, hz0, hz1, hz2⟩ := info_parts Try.info21
  have hne := twin_ne a
  have hxo : bits .xor .i32 (a : Int) 1 = (twin a : Int) := bits_twin a (by omega)
  obtain ⟨g, c, hv, cf3, gc⟩ := h.arcV ha
  have gc1 : w.cell? ⟨g, a * 4 + 1, none⟩ = some (.int .i8 (roomAt s.arcs a)) := by rw [gc 1 (by omega), roomAt_get ha]; rfl
  have e11 : s.R 11 = some (.slice (some ⟨g, 0, none⟩) s.arcs.length c, 67, 4, s.arcs.length, s.arcs.flatMap Arc.cells) := by rw [← hv]; simp [FV.R]
  have gf1 : w.frozen? ⟨g, a * 4 + 1, none⟩ = false := h.own.rfrozen e11 _
  have tg : T g = 11 := (h.own.row _ _ _ _ _ _ e11).2 g rfl
  obtain ⟨r, hr⟩ : ∃ r, roomAt s.arcs a = r := ⟨_, rfl⟩
  obtain ⟨q, hq⟩ : ∃ q, roomAt s.arcs (twin a) = q := ⟨_, rfl⟩
  obtain ⟨b, hb⟩ : ∃ b, twin a = b := ⟨_, rfl⟩
  have HB : Hid (twin a = b) := hb
  have HR : Hid (roomAt s.arcs a = r) := hr
  have HQ : Hid (roomAt s.arcs b = q) := by rw [← hb]; exact hq
  rw [hq] at hq0 hq1
  rw [hr] at hr0 hr1 gc1
  rw [hb] at hne hxo ht
  have hw1 : IntKind.i8.wrap (r - 1) = r - 1 := wrap_i8_in (by omega) (by omega)
  have hw2 : IntKind.i8.wrap (q + 1) = q + 1 := wrap_i8_in (by omega) (by omega)
  have y1 := h.setRoom hv ha (r - 1)
  have HY1 : Hid (FinAt (w.setCell ⟨g, a * 4 + 1, none⟩ (.int .i8 (r - 1))) T (s.setRoom a (r - 1))) := y1
  have HS1 : Hid (Step augT w T (w.setCell ⟨g, a * 4 + 1, none⟩ (.int .i8 (r - 1))) T) := (Step.refl augT w T).set (b := g) (by rw [tg]; exact .inr (.inr (.inr (.inl rfl)))) _
  have HV : Hid (s.vArcs = .slice (some ⟨g, 0, none⟩) s.arcs.length c) := hv
  have HTG : Hid (T g = 11) := tg
  clear h gc e11 y1 hr hq hb hv tg
  go_enter Try.func60, Try.ntmps60
  go_upto_region 1 with fail
  generalize w.setCell ⟨g, a * 4 + 1, none⟩ (.int .i8 (r - 1)) = w1 at *
  clear cf3 gc1 gf1
  have hb1 : b < (s.setRoom a (r - 1)).arcs.length := by show b < (setRm _ _ _).length; rw [setRm_len]; exact ht
  have hv1 : (s.setRoom a (r - 1)).vArcs = .slice (some ⟨g, 0, none⟩) (s.setRoom a (r - 1)).arcs.length c := by show s.vArcs = .slice _ (setRm _ _ _).length c; rw [setRm_len]; exact HV.out
  obtain ⟨g', c', hv', cf3, gc⟩ := HY1.out.arcV hb1
  rw [hv1] at hv'
  injection hv' with e1 _ e2
  injection e1 with e1
  injection e1 with e1 _ _
  subst e1 e2
  have hl1 : (s.setRoom a (r - 1)).arcs.length = s.arcs.length := setRm_len _ _ _
  have cf3' : w1.cell? ⟨s.F, 3, none⟩ = some (.slice (some ⟨g, 0, none⟩) s.arcs.length c) := by rw [← hl1]; exact cf3
  have gc1 : w1.cell? ⟨g, b * 4 + 1, none⟩ = some (.int .i8 q) := by
    rw [gc 1 (by omega)]
    have h2 : roomAt (s.setRoom a (r - 1)).arcs b = q := by show roomAt (setRm _ _ _) b = q; rw [setRm_ne _ _ (fun e => hne e.symm)]; exact HQ.out
    rw [roomAt_get hb1] at h2
    rw [← h2]; rfl
  have e11 : (s.setRoom a (r - 1)).R 11 = some (.slice (some ⟨g, 0, none⟩) (s.setRoom a (r - 1)).arcs.length c, 67, 4, (s.setRoom a (r - 1)).arcs.length, (s.setRoom a (r - 1)).arcs.flatMap Arc.cells) := by rw [← hv1]; simp [FV.R]
  have gf1 : w1.frozen? ⟨g, b * 4 + 1, none⟩ = false := HY1.out.own.rfrozen e11 _
  have y2 := HY1.out.setRoom hv1 hb1 (q + 1)
  have HY2 : Hid (FinAt (w1.setCell ⟨g, b * 4 + 1, none⟩ (.int .i8 (q + 1))) T ((s.setRoom a (r - 1)).setRoom b (q + 1))) := y2
  have HS2 : Hid (Step augT w T (w1.setCell ⟨g, b * 4 + 1, none⟩ (.int .i8 (q + 1))) T) := HS1.out.set (b := g) (by rw [HTG.out]; exact .inr (.inr (.inr (.inl rfl)))) _
  clear y2 e11 gc cf3 hl1 hv1 hb1 HY1 HS1
  go_upto_region 2 with fail
  generalize w1.setCell ⟨g, b * 4 + 1, none⟩ (.int .i8 (q + 1)) = w2 at *
  clear cf3' gc1 gf1
  obtain ⟨s2, hs2⟩ : ∃ s2, (s.setRoom a (r - 1)).setRoom b (q + 1) = s2 := ⟨_, rfl⟩
  have HS : Hid ((s.setRoom a (r - 1)).setRoom b (q + 1) = s2) := hs2
  have eF : s2.F = s.F := by rw [← hs2]; rfl
  have eT : s2.touched = s.touched := by rw [← hs2]; rfl
  rw [hs2] at HY2
  clear hs2
  rw [← eT] at htl
  have HT2 : Hid (s2.touched = s.touched) := eT
  have HF2 : Hid (s2.F = s.F) := eF
  obtain ⟨ao, cp, hvt⟩ := HY2.out.touchedV
  have ra : w2.ownsRow 0 21 1 (.slice ao s2.touched.length cp) s2.touched.length (s2.touched.map (.int .i32)) := by
    have := (HY2.out.own.row 12 s2.vTouched 21 1 s2.touched.length (s2.touched.map (.int .i32)) (by simp [FV.R])).1
    rw [hvt] at this; exact this
  have cf5 : w2.cell? ⟨s.F, 5, none⟩ = some (.slice ao s2.touched.length cp) := by rw [← hvt, ← eF]; exact HY2.out.f rfl
  have ff5 : w2.frozen? ⟨s.F, 5, none⟩ = false := by rw [← eF]; exact HY2.out.own.frozen (t := 1) (e := 73) (l := s2.fields) (by simp [FV.A]) 5
  have ne5 : (Value.slice ao s2.touched.length cp).ownBlock ≠ some s.F := by
    rw [← eF]
    have := HY2.out.own.row_ne (t := 12) (t' := 1) (v := s2.vTouched) (e := 21) (z := 1) (n := s2.touched.length) (xs := s2.touched.map (.int .i32)) (b := s2.F) (e' := 73) (l := s2.fields) (by simp [FV.R]) (by simp [FV.A]) (by omega)
    rw [hvt] at this; exact this
  have HVT : Hid (s2.vTouched = .slice ao s2.touched.length cp) := hvt
  clear hvt eF eT
  go_wp2_with (at_builtin; refine wpList_append_lies _ rfl _ _ _ rfl 0 21 i0 _ 1 4 Try.underlying45 hi0 hz0 hz1 hz2 rfl (by omega) (.slice ao s2.touched.length cp) s2.touched.length (s2.touched.map (.int .i32)) rfl (ra.alloc _) ⟨w2.heap.size, 0, none⟩ 2 2 [.int .i32 a, .int .i32 b] rfl rfl (World.news_of_block (cs := #[.int .i32 a, .int .i32 b]) (t := 21) (fr := (0, 0)) (heap_alloc_new w2 _)) (by simp [Value.oneCell']) (by omega) (by unfold maxLen; omega) (by omega) (Nat.zero_le _) (w2.heap.size + 1) (by simp) ?_; intro g3 cap3 x3 hown3 hgrow3 hat3 hlt3; have hc3 := cell_grown cf5 (below_laid _ _) hgrow3 ne5; have hf3 := frozen_grown (cell_at cf5) ff5 (below_laid _ _) hgrow3 ne5)
  have y4 := HY2.out.pushTouched (xs := [(a : Int), (b : Int)]) (m := 2) rfl (below_laid _ _) hown3 (by rw [HVT.out]; exact hgrow3) (by rw [HVT.out]; exact hat3) (by simp) hlt3
  have HP : Hid (PushR w T s a (.returned (.tuple #[])) (x3.setCell ⟨s.F, 5, none⟩ (.slice (some ⟨g3, 0, none⟩) (s2.touched.length + 2) cap3))) := by
    refine ⟨rfl, retag T g3 12, .slice (some ⟨g3, 0, none⟩) (s2.touched.length + 2) cap3, ?_, ?_⟩
    · have e : s2.pushTouched [(a : Int), (b : Int)] (.slice (some ⟨g3, 0, none⟩) (s2.touched.length + 2) cap3) = s.pushed a (.slice (some ⟨g3, 0, none⟩) (s2.touched.length + 2) cap3) := by
        unfold FV.pushTouched FV.pushed pushAt
        rw [HB.out, HR.out, HQ.out, HT2.out, ← HS.out]
        rfl
      rw [← e, ← HF2.out]
      exact y4.1
    · rw [← HF2.out]
      refine HS2.out.trans (y4.2.mono fun t ht => ?_)
      rcases ht with h | h
      · exact .inl h
      · exact .inr (.inr (.inr (.inr (.inl h))))
  clear y4 hown3 hgrow3 hat3 hlt3 HY2 HS2
  go_wp2
  exact bodyPost_ret (v := .tuple #[]) (by simp [results, Try.results60, go_sem]) rfl HP.out
end Go.Proofs.Qxb6605292a
