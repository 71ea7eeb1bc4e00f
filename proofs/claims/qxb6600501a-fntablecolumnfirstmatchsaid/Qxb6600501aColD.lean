/-
  ZZB1TableColumn (f16).
-/
import Derived.Test.Qxb6600501aColC
import Derived.Test.Qxb6600501aReg
import Derived.Deep.RegionHeld3
namespace Go.Proofs.Qxb6600501a
open Go.RowKit

/-- What the loop holds: the columns read, the result, the table, the columns laid so far. -/
structure TI (w : World) (H g : Nat) (cs : List Col) (k : Nat) (wr : World) : Prop where
  cols : ColsAt wr g cs
  res : Rw wr H 32 zeroCol.cells
  tab : Rw wr (H + 1 + 1) 40 [.int .u32 0, .string ⟨#[]⟩, .slice (some ⟨H + 1, 0, none⟩) cs.length cs.length, .slice none 0 0]
  laid : ColsAt wr (H + 1) (cs.take k)
  room : wr.there (H + 1) 0 (cs.length * 9)
  b : Below H w wr
theorem TI.later {w : World} {H g : Nat} {cs : List Col} {k : Nat} {wr w' : World} (h : TI w H g cs k wr) (hb : Below wr.heap.size wr w') : TI w H g cs k w' :=
  ⟨h.cols.later hb, h.res.below hb h.res.lt, h.tab.below hb h.tab.lt, h.laid.later hb, there_later h.room hb, h.b.trans (hb.mono (Nat.le_of_lt h.res.lt))⟩
theorem rw_setCells {b : Nat} : ∀ (vs : List Value) (o : Nat) {w : World} {b' : Nat} {e : TypeId} {l : List Value}, Rw w b' e l → b' ≠ b → Rw (w.setCells b o vs) b' e l
  | [], _, _, _, _, _, h, _ => h
  | v :: r, o, w, b', e, l, h, hn => by
    rw [World.setCells]
    exact rw_setCells r (o + 1) (h.set_ne (p := ⟨b, o, none⟩) hn v) hn
theorem TI.step {w : World} {H g : Nat} {cs : List Col} {k : Nat} {wr : World} (h : TI w H g cs k wr) {c : Col} (hc : cs[k]? = some c) (hg : g ≠ H + 1) : TI w H g cs (k + 1) (wr.setCells (H + 1) (k * 9) c.cells) := by
  have hk : k < cs.length := (List.getElem?_eq_some_iff.1 hc).1
  refine ⟨fun i d hd => World.rangeAt_setCells_apart (h.cols i d hd) _ _ _ (.inl hg), rw_setCells _ _ h.res (by omega), rw_setCells _ _ h.tab (by omega), ?_, World.there_setCells h.room _ _ _, below_setCells (by omega) _ _ h.b⟩
  have hl : (cs.take k).length = k := by rw [List.length_take]; omega
  have hs := h.laid.snoc h.room (by omega) c
  rw [hl] at hs
  rw [List.take_add_one, hc]
  exact hs
def TabR (w : World) (cs : List Col) (nm : ByteArray) (e : Ending) (w' : World) : Prop := ∃ (c : Col) (ok : Bool), e = .returned (.tuple #[c.v, .bool ok]) ∧ First cs nm c ok ∧ Below w.heap.size w w'

theorem exec_load_mid {P : Program} {a : Act} {o : Oper} {w : World} (ty : TypeId) (x : Operand) (ho : o.op = .load ty x) (b off : Nat) (hx : a.eval x = .pointer (some ⟨b, off, none⟩)) (cs : List Value) (d : TypeDesc) (hc : w.rangeAt b off cs)
    (hu : P.underlying ty = some d) (hd : d.isRow = true) (hi : (P.info? ty).map (·.size) = some cs.length) : (execOp a.eval o).run P w = .ok (.value (.agg cs.toArray)) w := by
  unfold execOp
  simp only [ho, hx, Instr.loadAt, Instr.sureAddr, Sem.run_bind, Sem.run_pure, Result.andThen_ok, run_loadVar_mid w b off ty cs d hc hu hd hi]

set_option maxRecDepth 100000 in
set_option maxHeartbeats 1600000 in
theorem table_any (w : World) (g : Nat) (cs : List Col) (nm : ByteArray) (hc : ColsAt w g cs) (hl : cs.length ≤ 65536) (hgl : g < w.heap.size) :
    Calls Try.prog 16 #[.slice (some ⟨g, 0, none⟩) cs.length cs.length, .string nm] w fun e w' => TabR w cs nm e w' := by
  obtain ⟨i0, hi0, hz0, hz1, hz2⟩ := info_parts Try.info44
  have HC : Hid (ColsAt w g cs) := hc
  clear hc
  obtain ⟨H, hH⟩ := size_name w
  have HH : Hid (w.heap.size = H) := hH
  have hgH : g < H := by omega
  clear hH hgl
  have hH1 : (w.alloc (.cells zeroCol.cells.toArray 32)).heap.size = H + 1 := by have := HH.out; simp [this]
  have HH1 : Hid ((w.alloc (.cells zeroCol.cells.toArray 32)).heap.size = H + 1) := hH1
  clear hH1
  go_enter Try.func16, Try.ntmps16
  go_wp2_with (at_make; refine wpList_mk9 _ rfl _ _ _ rfl 44 i0 _ 120 Try.underlying37 hi0 hz0 hz1 hz2 _ _ _ _ cs.length rfl rfl rfl rfl (by omega) (by unfold maxLen; omega) (H + 1) HH1.out ?_; intro w1 hr hb hsz)
  have HI0 : Hid (TI w H g cs 0 (w1.alloc (.cells #[.int .u32 0, .string ⟨#[]⟩, .slice (some ⟨H + 1, 0, none⟩) cs.length cs.length, .slice none 0 0] 40))) := by
    have hb0 : Below H w (w.alloc (.cells zeroCol.cells.toArray 32)) := by rw [← HH.out]; exact below_laid _ _
    have r0 : Rw (w.alloc (.cells zeroCol.cells.toArray 32)) H 32 zeroCol.cells := by have h := Rw.new w 32 zeroCol.cells; rw [HH.out] at h; exact h
    have hb1 : Below (H + 1) (w.alloc (.cells zeroCol.cells.toArray 32)) w1 := hb
    have hb2 := below_laid w1 (.cells #[.int .u32 0, .string ⟨#[]⟩, .slice (some ⟨H + 1, 0, none⟩) cs.length cs.length, .slice none 0 0] 40)
    have hbw : Below H w (w1.alloc (.cells #[.int .u32 0, .string ⟨#[]⟩, .slice (some ⟨H + 1, 0, none⟩) cs.length cs.length, .slice none 0 0] 40)) := (hb0.trans (hb1.mono (by omega))).trans (hb2.mono (by omega))
    refine ⟨HC.out.later (by rw [HH.out]; exact hbw), (r0.below hb1 (by omega)).below hb2 (by omega), ?_, fun i c hc => by simp at hc, there_later hr hb2, hbw⟩
    have h := Rw.new w1 40 [.int .u32 0, .string ⟨#[]⟩, .slice (some ⟨H + 1, 0, none⟩) cs.length cs.length, .slice none 0 0]
    rw [hsz] at h
    exact h
  clear hr hb hsz HH1
  rw [HH.out]
  go_loopw [7] (fun c wr => ∃ k : Nat, k ≤ cs.length ∧ c = .int .i64 k ∧ Hid (TI w H g cs k wr)) (fun c _ => cs.length - (intOf c).toNat)
  case atStart => exact ⟨0, Nat.zero_le _, rfl, HI0⟩
  case round =>
    obtain ⟨k, hk, rfl, HR⟩ := hrel
    clear HI0
    by_cases hlt : k < cs.length
    · obtain ⟨c, hck⟩ : ∃ c, cs[k]? = some c := ⟨_, List.getElem?_eq_getElem hlt⟩
      have HCK : Hid (cs[k]? = some c) := hck
      clear hck
      go_upto_region 5 with fail
      refine wp_region_noPanic ?_
      refine wp_region_T (fun w' => w'.cell? ⟨H + 1 + 1, 2, none⟩ = some (.slice (some ⟨H + 1, 0, none⟩) cs.length cs.length) ∧ w'.rangeAt g (k * 9) c.cells)
        [1, 6] [7, 9] [0, 1, 2, 3, 4, 5, 6, 7, 8, 9] (by kernel_rfl) (by kernel_rfl) rfl (by kernel_rfl) (fun _ _ _ _ _ h => h) ⟨HR.out.tab.at rfl, HR.out.cols k c HCK.out⟩ ?_
      simp only [List.map_cons, List.map_nil, List.getElem?_toArray, List.getElem?_cons_succ, List.getElem?_cons_zero]
      refine wpT_take (v := ?_) (by rfl) (by rfl) ?_ ?_
      rotate_left 1
      focus (intro w; go_simp; try with_reducible rfl)
      simp only [Act.put, List.setIfInBounds_toArray, List.set_cons_zero, List.set_cons_succ]
      refine wpT_held (v := ?_) (by rfl) (by rfl) (by rfl) ?_ ?_
      rotate_left 1
      focus (rintro w ⟨s1, s2⟩; go_simp; try with_reducible rfl)
      simp only [Act.put, List.setIfInBounds_toArray, List.set_cons_zero, List.set_cons_succ]
      iterate 4
        refine wpT_take (v := ?_) (by rfl) (by rfl) ?_ ?_
        rotate_left 1
        focus (intro w; go_simp; try with_reducible rfl)
        simp only [Act.put, List.setIfInBounds_toArray, List.set_cons_zero, List.set_cons_succ]
      refine wpT_held (v := c.v) (by rfl) (by rfl) (by rfl) ?_ ?_
      · rintro w ⟨s1, s2⟩
        exact exec_load_mid 32 _ rfl g (k * 9) rfl c.cells _ s2 Try.underlying32 rfl Try.size32
      simp only [Act.put, List.setIfInBounds_toArray, List.set_cons_zero, List.set_cons_succ]
      refine wpT_eff (by rfl) (fun K hK => ?_)
      go_simp
      refine (to_any _ c).mono ?_
      rintro e w5 ⟨rfl, hb5⟩
      have HR5 : Hid (TI w H g cs k w5) := (HR.out.later (by simpa using (Below.refl wr.heap.size wr).drew)).later hb5
      have hT : w5.there (H + 1) (k * 9) 9 := there_part HR5.out.room (by omega)
      refine hK _ _ (fun _ => ⟨HR5.out.tab.at rfl, HR5.out.cols k c HCK.out⟩) ?_
      clear hK K hb5 HR
      try simp only [Act.put, List.setIfInBounds_toArray, List.set_cons_zero, List.set_cons_succ]
      refine wpT_take (v := ?_) (by rfl) (by rfl) ?_ ?_
      rotate_left 1
      focus (intro w; go_simp; try with_reducible rfl)
      simp only [Act.put, List.setIfInBounds_toArray, List.set_cons_zero, List.set_cons_succ]
      refine wpT_last (by rfl) (by kernel_rfl) (fun K hK => ?_)
      refine wp_store_mid 44 _ _ rfl (H + 1) (k * 9) c.cells.toArray rfl rfl hT Try.size44 c.one ?_
      refine hK _ _ ?_
      clear hK K hT
      have HS : Hid (TI w H g cs (k + 1) (w5.setCells (H + 1) (k * 9) c.cells)) := HR5.out.step HCK.out (by omega)
      have e6 : c.cells.toArray.toList = c.cells := rfl
      rw [e6]
      clear e6 HR5
      generalize w5.setCells (H + 1) (k * 9) c.cells = w6 at *
      try simp only [Act.put]
      refine wpT_nil ?_
      refine NoPanic.normal ?_
      go_wp2
      go_roundw
      case rel => exact ⟨k + 1, by omega, by go_num, HS⟩
      case measure => simp [intOf]; omega
    · have hke : k = cs.length := by omega
      subst hke
      have HCL : Hid (ColsAt wr (H + 1) cs) := by have h := HR.out.laid; rw [List.take_length] at h; exact h
      have c0 : wr.cell? ⟨H + 1 + 1, 0, none⟩ = some (.int .u32 0) := HR.out.tab.at rfl
      have c1 : wr.cell? ⟨H + 1 + 1, 1, none⟩ = some (.string ⟨#[]⟩) := HR.out.tab.at rfl
      have c2 : wr.cell? ⟨H + 1 + 1, 2, none⟩ = some (.slice (some ⟨H + 1, 0, none⟩) cs.length cs.length) := HR.out.tab.at rfl
      have c3 : wr.cell? ⟨H + 1 + 1, 3, none⟩ = some (.slice none 0 0) := HR.out.tab.at rfl
      have HCA : Hid (Calls Try.prog 21 #[.agg #[.int .u32 0, .string ⟨#[]⟩, .slice (some ⟨H + 1, 0, none⟩) cs.length cs.length, .slice none 0 0], .string nm] wr fun e w' => ColR wr cs nm e w') := column_any wr (H + 1) cs nm HCL.out hl
      go_wp2_with fail
      refine HCA.out.mono ?_
      rintro e w6 ⟨c, ok, rfl, hfirst, hb6⟩
      have HF : Hid (First cs nm c ok) := hfirst
      have HR6 : Hid (TI w H g cs cs.length w6) := HR.out.later hb6
      clear hb6 hfirst HCA HCL HR c0 c1 c2 c3
      obtain ⟨a1, a2, a3, a4, a5, a6, a7, a8, a9⟩ := c
      have HFR : Hid (∀ w, Calls Try.prog 22 #[.agg #[.string a1, .string a2, .bool a3, .bool a4, .string a5, .string a6, .string a7, .string a8, .string a9]] w fun r w' => IdR (.agg #[.string a1, .string a2, .bool a3, .bool a4, .string a5, .string a6, .string a7, .string a8, .string a9]) w r w') := fun w => from_any w ⟨a1, a2, a3, a4, a5, a6, a7, a8, a9⟩
      have HR7 : Hid (TI w H g cs cs.length (w6.alloc (.cells #[.string a1, .string a2, .bool a3, .bool a4, .string a5, .string a6, .string a7, .string a8, .string a9] 44))) := HR6.out.later (below_laid _ _)
      unfold Col.v Col.cells
      go_wp2_with fail
      refine (HFR.out _).mono ?_
      rintro e w8 ⟨rfl, hb8⟩
      have HR8 : Hid (TI w H g cs cs.length w8) := HR7.out.later hb8
      clear hb8 HR7 HR6 HFR
      have hth : w8.there H 0 9 := fun j hj => by
        rw [Nat.zero_add, HR8.out.res.cell, HR8.out.res.frozen]
        refine ⟨?_, rfl⟩
        rw [List.getElem?_eq_getElem (by show j < 9; omega)]; rfl
      have HTH : Hid (w8.there H 0 9) := hth
      have hr9 : (w8.setCells H 0 [.string a1, .string a2, .bool a3, .bool a4, .string a5, .string a6, .string a7, .string a8, .string a9]).rangeAt H 0 (Col.cells ⟨a1, a2, a3, a4, a5, a6, a7, a8, a9⟩) := World.rangeAt_setCells_same _ _ _ _ hth
      have HLD := hid_mk (cells9 hr9)
      have HE : Hid (TabR w cs nm (.returned (.tuple #[.agg #[.string a1, .string a2, .bool a3, .bool a4, .string a5, .string a6, .string a7, .string a8, .string a9], .bool ok])) (w8.setCells H 0 [.string a1, .string a2, .bool a3, .bool a4, .string a5, .string a6, .string a7, .string a8, .string a9])) :=
        ⟨⟨a1, a2, a3, a4, a5, a6, a7, a8, a9⟩, ok, rfl, HF.out, by rw [HH.out]; exact below_setCells (Nat.le_refl _) _ _ HR8.out.b⟩
      clear hth hr9 HR8
      go_wp2_with (refine wpList_store_mid rfl 32 _ _ rfl H 0 _ rfl rfl ?_ ?_ ?_ ?_; exact HTH.out; exact Try.size32; exact Col.one ⟨_, _, _, _, _, _, _, _, _⟩)
      exact bodyPost_ret (v := .tuple #[.agg #[.string a1, .string a2, .bool a3, .bool a4, .string a5, .string a6, .string a7, .string a8, .string a9], .bool ok]) (by obtain ⟨d0, d1, d2, d3, d4, d5, d6, d7, d8⟩ := HLD.out; simp [results, Try.results16, go_sem, d0, d1, d2, d3, d4, d5, d6, d7, d8]) rfl HE.out
end Go.Proofs.Qxb6600501a
