/-
  (table).column (f21).
-/
import Derived.Test.Qxb6600501aColB
namespace Go.Proofs.Qxb6600501a
open Go.RowKit

def zeroCol : Col := ⟨⟨#[]⟩, ⟨#[]⟩, false, false, ⟨#[]⟩, ⟨#[]⟩, ⟨#[]⟩, ⟨#[]⟩, ⟨#[]⟩⟩
def tableV (g n : Nat) : Value := .agg #[.int .u32 0, .string ⟨#[]⟩, .slice (some ⟨g, 0, none⟩) n n, .slice none 0 0]
def First (cs : List Col) (nm : ByteArray) (c : Col) (ok : Bool) : Prop :=
  (ok = true ∧ ∃ j : Nat, cs[j]? = some c ∧ c.a.toList = nm.toList ∧ ∀ (i : Nat) (d : Col), i < j → cs[i]? = some d → d.a.toList ≠ nm.toList) ∨ (ok = false ∧ c = zeroCol ∧ ∀ (i : Nat) (d : Col), cs[i]? = some d → d.a.toList ≠ nm.toList)
def ColR (w : World) (cs : List Col) (nm : ByteArray) (e : Ending) (w' : World) : Prop := ∃ (c : Col) (ok : Bool), e = .returned (.tuple #[c.v, .bool ok]) ∧ First cs nm c ok ∧ Below w.heap.size w w'
/-- What the loop holds. -/
structure CI (w : World) (H g : Nat) (cs : List Col) (wr : World) : Prop where
  cols : ColsAt wr g cs
  res : Rw wr (H + 1) 44 zeroCol.cells
  b : Below H w wr
theorem CI.later {w : World} {H g : Nat} {cs : List Col} {wr w' : World} (h : CI w H g cs wr) (hb : Below wr.heap.size wr w') : CI w H g cs w' :=
  ⟨h.cols.later hb, h.res.below hb h.res.lt, h.b.trans (hb.mono (by have := h.res.lt; omega))⟩

theorem hid_mk {p : Prop} (h : p) : Hid p := h
/-- The nine cells, one by one. -/
theorem cells9 {w : World} {b : Nat} {c : Col} (h : w.rangeAt b 0 c.cells) : w.cell? ⟨b, 0, none⟩ = some (.string c.a) ∧ w.cell? ⟨b, 1, none⟩ = some (.string c.b) ∧ w.cell? ⟨b, 2, none⟩ = some (.bool c.c) ∧ w.cell? ⟨b, 3, none⟩ = some (.bool c.d) ∧
    w.cell? ⟨b, 4, none⟩ = some (.string c.e) ∧ w.cell? ⟨b, 5, none⟩ = some (.string c.f) ∧ w.cell? ⟨b, 6, none⟩ = some (.string c.g) ∧ w.cell? ⟨b, 7, none⟩ = some (.string c.h) ∧ w.cell? ⟨b, 8, none⟩ = some (.string c.i) := by
  have k : ∀ j v, c.cells[j]? = some v → w.cell? ⟨b, j, none⟩ = some v := fun j v hv => by
    have := h j v hv
    rw [Nat.zero_add] at this
    exact this
  exact ⟨k 0 _ rfl, k 1 _ rfl, k 2 _ rfl, k 3 _ rfl, k 4 _ rfl, k 5 _ rfl, k 6 _ rfl, k 7 _ rfl, k 8 _ rfl⟩

set_option maxRecDepth 100000 in
set_option maxHeartbeats 1600000 in
theorem column_any (w : World) (g : Nat) (cs : List Col) (nm : ByteArray) (hc : ColsAt w g cs) (hl : cs.length ≤ 65536) :
    Calls Try.prog 21 #[tableV g cs.length, .string nm] w fun e w' => ColR w cs nm e w' := by
  have HC : Hid (ColsAt w g cs) := hc
  clear hc
  obtain ⟨H, hH⟩ := size_name w
  have HH : Hid (w.heap.size = H) := hH
  clear hH
  have HI0 : Hid (CI w H g cs ((w.alloc (.cells #[.int .u32 0, .string ⟨#[]⟩, .slice (some ⟨g, 0, none⟩) cs.length cs.length, .slice none 0 0] 40)).alloc (.cells zeroCol.cells.toArray 44))) := by
    rw [← HH.out]
    have hb1 := below_laid w (.cells #[.int .u32 0, .string ⟨#[]⟩, .slice (some ⟨g, 0, none⟩) cs.length cs.length, .slice none 0 0] 40)
    have hs : (w.alloc (.cells #[.int .u32 0, .string ⟨#[]⟩, .slice (some ⟨g, 0, none⟩) cs.length cs.length, .slice none 0 0] 40)).heap.size = w.heap.size + 1 := by simp
    have hb2 := below_all hb1 (below_laid _ (.cells zeroCol.cells.toArray 44))
    refine ⟨HC.out.later hb2, ?_, hb2⟩
    rw [← hs]
    exact Rw.new _ _ _
  unfold tableV
  go_enter Try.func21, Try.ntmps21
  go_wp2
  rw [HH.out]
  go_loopw [11] (fun c wr => ∃ k : Nat, k ≤ cs.length ∧ c = .int .i64 k ∧ Hid (CI w H g cs wr ∧ ∀ (i : Nat) (d : Col), i < k → cs[i]? = some d → d.a.toList ≠ nm.toList)) (fun c _ => cs.length - (intOf c).toNat)
  case atStart => exact ⟨0, Nat.zero_le _, rfl, HI0.out, fun i d hi => absurd hi (Nat.not_lt_zero _)⟩
  case round =>
    obtain ⟨k, hk, rfl, HR⟩ := hrel
    clear HI0
    by_cases hlt : k < cs.length
    · obtain ⟨c, hck⟩ : ∃ c, cs[k]? = some c := ⟨_, List.getElem?_eq_getElem hlt⟩
      have hrg : wr.rangeAt g (k * 9) c.cells := HR.out.1.cols k c hck
      have HCK : Hid (cs[k]? = some c) := hck
      clear hck
      obtain ⟨h2, hh2⟩ := size_name wr
      have HH2 : Hid (wr.heap.size = h2) := hh2
      clear hh2
      have HL : Hid (CI w H g cs (wr.alloc (.cells c.cells.toArray 44))) := HR.out.1.later (below_laid _ _)
      by_cases hab : c.a.toList = nm.toList
      · have HE : Hid (ColR w cs nm (.returned (.tuple #[c.v, .bool true])) ((wr.alloc (.cells c.cells.toArray 44)).setCells (H + 1) 0 c.cells)) := by
          refine ⟨c, true, rfl, .inl ⟨rfl, k, HCK.out, hab, HR.out.2⟩, ?_⟩
          rw [HH.out]
          exact below_setCells (by omega) _ _ HL.out.b
        have hth : (wr.alloc (.cells c.cells.toArray 44)).there (H + 1) 0 9 := fun j hj => by
          rw [Nat.zero_add, HL.out.res.cell, HL.out.res.frozen]
          refine ⟨?_, rfl⟩
          rw [List.getElem?_eq_getElem (by show j < 9; omega)]; rfl
        obtain ⟨a1, a2, a3, a4, a5, a6, a7, a8, a9⟩ := c
        have hbb : (a1.toList == nm.toList) = true := by rw [beq_iff_eq]; exact hab
        have HTH : Hid ((wr.alloc (.cells #[.string a1, .string a2, .bool a3, .bool a4, .string a5, .string a6, .string a7, .string a8, .string a9] 44)).there (H + 1) 0 9) := hth
        have hr9 : ((wr.alloc (.cells #[.string a1, .string a2, .bool a3, .bool a4, .string a5, .string a6, .string a7, .string a8, .string a9] 44)).setCells (H + 1) 0 [.string a1, .string a2, .bool a3, .bool a4, .string a5, .string a6, .string a7, .string a8, .string a9]).rangeAt (H + 1) 0 (Col.cells ⟨a1, a2, a3, a4, a5, a6, a7, a8, a9⟩) := World.rangeAt_setCells_same _ _ _ _ hth
        have HLD := hid_mk (cells9 hr9)
        have HE2 : Hid (ColR w cs nm (.returned (.tuple #[.agg #[.string a1, .string a2, .bool a3, .bool a4, .string a5, .string a6, .string a7, .string a8, .string a9], .bool true])) ((wr.alloc (.cells #[.string a1, .string a2, .bool a3, .bool a4, .string a5, .string a6, .string a7, .string a8, .string a9] 44)).setCells (H + 1) 0 [.string a1, .string a2, .bool a3, .bool a4, .string a5, .string a6, .string a7, .string a8, .string a9])) := HE
        have HRG : Hid (wr.rangeAt g (k * 9) [.string a1, .string a2, .bool a3, .bool a4, .string a5, .string a6, .string a7, .string a8, .string a9]) := hrg
        clear HR HCK hab hth hr9 HE HL hrg
        go_upto_region 4 with (refine wpList_load_mid rfl 44 _ rfl g (k * 9) rfl _ _ HRG.out Try.underlying44 rfl Try.size44 ?_)
        go_wp2_with (refine wpList_store_mid rfl 44 _ _ rfl (H + 1) 0 _ rfl rfl ?_ ?_ ?_ ?_; exact HTH.out; exact Try.size44; exact Col.one ⟨_, _, _, _, _, _, _, _, _⟩)
        exact bodyPost_ret (v := .tuple #[.agg #[.string a1, .string a2, .bool a3, .bool a4, .string a5, .string a6, .string a7, .string a8, .string a9], .bool true]) (by obtain ⟨d0, d1, d2, d3, d4, d5, d6, d7, d8⟩ := HLD.out; simp [results, Try.results21, go_sem, d0, d1, d2, d3, d4, d5, d6, d7, d8]) rfl HE2.out
      · have HN : Hid (∀ (i : Nat) (d : Col), i < k + 1 → cs[i]? = some d → d.a.toList ≠ nm.toList) := fun i d hi hd => by
          by_cases e : i = k
          · subst e
            rw [HCK.out] at hd
            injection hd with hd
            subst hd
            exact hab
          · exact HR.out.2 i d (by omega) hd
        obtain ⟨a1, a2, a3, a4, a5, a6, a7, a8, a9⟩ := c
        have hbb : (a1.toList == nm.toList) = false := by rw [beq_eq_false_iff_ne]; exact hab
        have HRG : Hid (wr.rangeAt g (k * 9) [.string a1, .string a2, .bool a3, .bool a4, .string a5, .string a6, .string a7, .string a8, .string a9]) := hrg
        have HL2 : Hid (CI w H g cs (wr.alloc (.cells #[.string a1, .string a2, .bool a3, .bool a4, .string a5, .string a6, .string a7, .string a8, .string a9] 44))) := HL
        clear HR HCK hab HL hrg
        go_upto_region 4 with (refine wpList_load_mid rfl 44 _ rfl g (k * 9) rfl _ _ HRG.out Try.underlying44 rfl Try.size44 ?_)
        go_wp2
        go_roundw
        case rel => exact ⟨k + 1, by omega, by go_num, HL2.out, HN.out⟩
        case measure => simp [intOf]; omega
    · have hth : wr.there (H + 1) 0 9 := fun j hj => by
        rw [Nat.zero_add, HR.out.1.res.cell, HR.out.1.res.frozen]
        refine ⟨?_, rfl⟩
        rw [List.getElem?_eq_getElem (by show j < 9; omega)]; rfl
      have HTH : Hid (wr.there (H + 1) 0 9) := hth
      have hr9 : (wr.setCells (H + 1) 0 zeroCol.cells).rangeAt (H + 1) 0 zeroCol.cells := World.rangeAt_setCells_same _ _ _ _ hth
      have HLD := hid_mk (cells9 hr9)
      have HE : Hid (ColR w cs nm (.returned (.tuple #[zeroCol.v, .bool false])) (wr.setCells (H + 1) 0 zeroCol.cells)) := by
        refine ⟨zeroCol, false, rfl, .inr ⟨rfl, rfl, fun i d hd => HR.out.2 i d ?_ hd⟩, ?_⟩
        · have := (List.getElem?_eq_some_iff.1 hd).1
          omega
        · rw [HH.out]
          exact below_setCells (by omega) _ _ HR.out.1.b
      clear hth HR hr9
      go_wp2_with (refine wpList_store_mid rfl 44 _ _ rfl (H + 1) 0 _ rfl rfl ?_ ?_ ?_ ?_; exact HTH.out; exact Try.size44; exact Col.one ⟨_, _, _, _, _, _, _, _, _⟩)
      exact bodyPost_ret (v := .tuple #[zeroCol.v, .bool false]) (by obtain ⟨d0, d1, d2, d3, d4, d5, d6, d7, d8⟩ := HLD.out; simp only [zeroCol, Col.cells, Col.v] at *; simp [results, Try.results21, go_sem, d0, d1, d2, d3, d4, d5, d6, d7, d8]) rfl HE.out
end Go.Proofs.Qxb6600501a
