/-
  zzFewestArcs (f35).
-/
import Derived.Test.Qxb6605292aFew
namespace Go.Proofs.Qxb6605292a
open Go.RowKit

set_option maxRecDepth 100000 in
set_option maxHeartbeats 8000000 in
theorem fewest_any {w : World} {T : Nat → Nat} {Z F V s t : Nat} {ps : List Pr} {l : List Arc} (hz : ZL w T Z F V ps l) (hnew : ∀ b, w.heap.size ≤ b → T b = 0) (hok : PsOk V ps l) (hrm : Rm l) (hV : V ≤ 1000) (hs : s < V) (ht : t < V) (_ : ps.length ≤ 500000) :
    Calls Try.prog 35 #[.pointer (some ⟨Z, 0, none⟩), .int .i64 s, .int .i64 t] w fun e w' => FewR w w.heap.size V s t l e w' := by
  obtain ⟨i0, hi0, hz0, hz1, hz2⟩ := info_parts Try.info21
  obtain ⟨H, hH⟩ := size_name w
  have HH : Hid (w.heap.size = H) := hH
  have HZ : Hid (ZL w T Z F V ps l) := hz
  have HLOW : Hid (∀ b, T b ≠ 0 → b < H) := fun b hb => by
    rcases Nat.lt_or_ge b H with h | h
    · exact h
    · exact absurd (hnew b (by omega)) hb
  have HPO : Hid (PsOk V ps l) := hok
  have HRM : Hid (Rm l) := hrm
  have c0 : w.cell? ⟨Z, 0, none⟩ = some (.int .i64 V) := hz.get.1
  have hlk := hok.len
  rw [hH]
  clear hz hnew hok hrm hH
  have hws : IntKind.i32.wrap (s : Int) = s := wrap32_nat (by omega)
  go_enter Try.func35, Try.ntmps35
  go_upto_region 3 with (at_make; refine wpList_mk _ rfl (.tmp 19) _ _ rfl 21 i0 (.int .i32 0) 4 Try.underlying45 hi0 hz0 hz1 hz2 rfl _ _ _ _ V rfl rfl rfl rfl (by omega) (by unfold maxLen; omega) H HH.out ?_; intro w1 hr1 hb1 hs1)
  have HR0 : Hid (Rw w1 H 21 ((List.replicate V (0 : Int)).map (.int .i32)) ∧ Below H w w1 ∧ w1.heap.size = H + 1) := ⟨by simpa using hr1, hb1, hs1⟩
  clear hr1 hb1 hs1 c0
  go_wp2
  go_loopw [9] (fun c wr => ∃ (k : Nat) (fs : List Int), k ≤ V ∧ c = .int .i64 k ∧ fs.length = V ∧ Hid (Rw wr H 21 (fs.map (.int .i32)) ∧ fs.take k = List.replicate k (-1) ∧ Below H w wr ∧ wr.heap.size = H + 1)) (fun c _ => V - (intOf c).toNat)
  case atStart => exact ⟨0, _, Nat.zero_le _, rfl, by simp, HR0.out.1, by simp, HR0.out.2⟩
  case round =>
    obtain ⟨k, fs, hk, rfl, hfl, HR⟩ := hrel
    clear HR0
    by_cases hlt : k < V
    · obtain ⟨u, cu⟩ := HR.out.1.there (o := k) (by rw [List.length_map, hfl]; exact hlt)
      have cf : wr.frozen? ⟨H, k, none⟩ = false := HR.out.1.frozen k
      have HN : Hid (Rw (wr.setCell ⟨H, k, none⟩ (.int .i32 (-1))) H 21 ((fs.set k (-1)).map (.int .i32)) ∧ (fs.set k (-1)).take (k + 1) = List.replicate (k + 1) (-1) ∧ Below H w (wr.setCell ⟨H, k, none⟩ (.int .i32 (-1))) ∧ (wr.setCell ⟨H, k, none⟩ (.int .i32 (-1))).heap.size = H + 1) := by
        refine ⟨by rw [List.map_set]; exact HR.out.1.set k _, ?_, HR.out.2.2.1.trans (by exact (Below.refl _ _).setCell (p := ⟨H, k, none⟩) (Nat.le_refl _) _), ?_⟩
        · rw [List.take_add_one, List.take_set_of_le (Nat.le_refl _), HR.out.2.1, List.getElem?_set_self (by omega), List.replicate_succ']
          rfl
        · rw [World.size_setCell]; exact HR.out.2.2.2
      clear HR
      go_wp2
      go_roundw
      case rel => exact ⟨k + 1, _, by omega, by go_num, by rw [List.length_set]; exact hfl, HN⟩
      case measure => simp [intOf]; omega
    · have hke : k = V := by omega
      subst hke
      have hfs : fs = List.replicate k (-1) := by
        have h := HR.out.2.1
        rw [List.take_of_length_le (by omega)] at h
        exact h
      subst hfs
      have hsz : wr.heap.size = H + 1 := HR.out.2.2.2
      go_upto_region 8 with (at_make; refine wpList_mk0 _ rfl _ _ _ rfl 21 i0 (.int .i32 0) 4 Try.underlying45 hi0 hz0 hz1 hz2 rfl _ _ _ _ k rfl rfl rfl rfl (by omega) (by unfold maxLen; omega) (H + 1) hsz ?_; intro w3 hr3 hb3 hs3)
      have HI0 : Hid (QI w T H Z F k ps l (List.replicate k (-1)) (.slice (some ⟨H + 1, 0, none⟩) 0 k) [] w3) := by
        have b3 : Below H w w3 := HR.out.2.2.1.trans (hb3.mono (by omega))
        refine ⟨?_, HLOW.out, HR.out.1.below hb3 (by omega), ⟨H + 1, k, rfl, Nat.le_refl _, ?_⟩, (Kept.refl _ _).of_below (by rw [HH.out]; exact b3)⟩
        · obtain ⟨z, h1, h2⟩ := HZ.out
          exact ⟨z, h1.later (by rw [HH.out]; exact b3), h2⟩
        · refine ⟨by simp, .inr ⟨H + 1, k, _, rfl, Nat.zero_le _, hr3, Nat.zero_le _, by unfold maxLen; omega, by simp, by simp⟩⟩
      clear hr3 hb3 hs3 HR hsz
      obtain ⟨us, cs⟩ := HI0.out.m.there (o := s) (by simp; omega)
      have fs : w3.frozen? ⟨H, s, none⟩ = false := HI0.out.m.frozen s
      have HI1 : Hid (QI w T H Z F k ps l ((List.replicate k (-1)).set s 0) (.slice (some ⟨H + 1, 0, none⟩) 0 k) [] (w3.setCell ⟨H, s, none⟩ (.int .i32 0))) := HI0.out.setD s 0
      clear HI0
      go_upto_region 9 with fail
      generalize w3.setCell ⟨H, s, none⟩ (.int .i32 0) = w4 at *
      clear cs fs
      have ra : w4.ownsRow 0 21 1 (.slice (some ⟨H + 1, 0, none⟩) 0 k) 0 [] := by obtain ⟨_, _, _, _, h⟩ := HI1.out.s; exact h
      go_upto_region 10 with (at_builtin; refine wpList_append_lies _ rfl _ _ _ rfl 0 21 i0 _ 1 4 Try.underlying45 hi0 hz0 hz1 hz2 rfl (by omega) (.slice (some ⟨H + 1, 0, none⟩) 0 k) 0 [] rfl (ra.alloc _) ⟨w4.heap.size, 0, none⟩ 1 1 [.int .i32 s] rfl rfl (World.news_of_block (cs := #[.int .i32 s]) (t := 21) (fr := (0, 0)) (heap_alloc_new w4 _)) (by simp [Value.oneCell']) (by omega) (by unfold maxLen; omega) (by omega) (Nat.zero_le _) (w4.heap.size + 1) (by simp) ?_; intro g3 cap3 x3 hown3 hgrow3 hat3 hlt3)
      have HI2 : Hid (QI w T H Z F k ps l ((List.replicate k (-1)).set s 0) (.slice (some ⟨g3, 0, none⟩) 1 cap3) [s] x3) := HI1.out.push (y := s) (below_laid w4 _) hown3 hgrow3 hat3 (by simp)
      have HB0 : Hid (QB k s l ((List.replicate k (-1)).set s 0) [s]) := QB.start l hs
      clear hown3 hgrow3 hat3 hlt3 ra HI1
      go_wp2
      go_loopw [10, 11] (fun v10 v11 wr => ∃ (hh : Nat) (ds : List Int) (q : List Nat), hh ≤ q.length ∧ q.length ≤ k ∧ v11 = .int .i64 hh ∧ Hid (QI w T H Z F k ps l ds v10 q wr) ∧ Hid (QB k s l ds q ∧ DoneQ l ds q hh ∧ (∀ x, q[hh]? = some x → Top ds q x))) (fun _ b _ => k + 1 - (intOf b).toNat)
      case atStart =>
        refine ⟨0, _, [s], Nat.zero_le _, by simp; omega, rfl, HI2, HB0.out, fun p x hp => absurd hp (Nat.not_lt_zero _), fun x hx y hy => ?_⟩
        rw [List.mem_singleton] at hy
        simp at hx
        subst hx hy
        omega
      case round =>
        obtain ⟨hh, ds, q, hhq, hqk, rfl, HM, HD⟩ := hrel
        clear HI2 HB0
        obtain ⟨g5, c5, hv5, hc5⟩ := HM.out.s.form
        by_cases hlt : hh < q.length
        · obtain ⟨x, hx⟩ : ∃ x, q[hh]? = some x := ⟨_, List.getElem?_eq_getElem hlt⟩
          have cx : wr.cell? ⟨g5, hh, none⟩ = some (.int .i32 (x : Int)) := HM.out.s.cell hv5 hx
          have hxV : x < k := HD.out.1.lt x (List.mem_of_getElem? hx)
          obtain ⟨_, cF, hfc⟩ := HM.out.z.get
          have cfx := hfc x hxV
          obtain ⟨e0, he0⟩ : ∃ e, lastB ps x (2 * ps.length) = e := ⟨_, rfl⟩
          have HE0 : Hid (lastB ps x (2 * ps.length) = e0) := he0
          rw [he0] at cfx
          have HL0 : Hid (QB k s l ds q ∧ DoneQ l ds q hh ∧ q[hh]? = some x ∧ Top ds q x ∧ Wq l ds x (2 * ps.length)) := ⟨HD.out.1, HD.out.2.1, hx, HD.out.2.2 x hx, fun a y h1 h2 => by omega⟩
          subst hv5
          clear he0 hfc hx HD
          go_wp2
          go_loopw [10, 13] (fun v10 v13 wr => ∃ (mi : Nat) (ds : List Int) (q : List Nat) (e : Int), mi ≤ 2 * ps.length ∧ hh < q.length ∧ q.length ≤ k ∧ v13 = .int .i32 e ∧ -1 ≤ e ∧ e < mi ∧ Hid (lastB ps x mi = e) ∧ Hid (QI w T H Z F k ps l ds v10 q wr) ∧ Hid (QB k s l ds q ∧ DoneQ l ds q hh ∧ q[hh]? = some x ∧ Top ds q x ∧ Wq l ds x mi)) (fun _ b _ => (intOf b + 1).toNat)
          case atStart =>
            have hb := lastB_lt ps x (2 * ps.length)
            rw [HE0.out] at hb
            exact ⟨2 * ps.length, ds, q, e0, Nat.le_refl _, hlt, hqk, rfl, hb.1, hb.2, HE0, HM, HL0⟩
          case round =>
            as_aux_lemma =>
              obtain ⟨mi, ds3, q3, e, hmi, hhq3, hq3k, rfl, he1, he2, HLB, HM, HD⟩ := hrel
              clear HL0 HE0 cfx cx
              have hspec := lastB_spec ps x mi
              rw [HLB.out] at hspec
              rcases hspec with ⟨hem, hnone⟩ | ⟨a, hea, ham, hta, hbtw⟩
              · subst hem
                have HN : Hid (QB k s l ds3 q3 ∧ DoneQ l ds3 q3 (hh + 1) ∧ (∀ y, q3[hh + 1]? = some y → Top ds3 q3 y)) := by
                  refine ⟨HD.out.1, fun p y hp hy => ?_, fun y hy z hz => ?_⟩
                  · by_cases e : p = hh
                    · subst e
                      rw [HD.out.2.2.1] at hy
                      injection hy with hy
                      subst hy
                      intro a z _ h2 h3 h4 h5
                      by_cases hma : mi ≤ a
                      · exact HD.out.2.2.2.2 a z hma h2 h3 h4 h5
                      · have h6 := HPO.out.tl a h2
                        rw [h3] at h6
                        exact absurd (by omega : tailOf ps a = x) (hnone a (by omega))
                    · exact HD.out.2.1 p y (by omega) hy
                  · have h1 := HD.out.2.2.2.1 z hz
                    have h2 := HD.out.1.mono hh (hh + 1) x y (by omega) HD.out.2.2.1 hy
                    omega
                clear HD hnone
                go_wp2
                go_roundw
                case rel => exact ⟨hh + 1, ds3, q3, by omega, hq3k, by go_num, HM, HN⟩
                case measure => simp [intOf]; omega
              · subst hea
                have hal : a < l.length := by omega
                have hlp : 0 < l.length := by omega
                obtain ⟨g2, c2, g3', c3, g4, c4, q2, q3', q4, hn2, hto, hcap, _⟩ := HM.out.z.rows hlk hlp
                obtain ⟨y, hy1, hyV⟩ := HPO.out.to hal
                have htw : toAt l (twin a) = (x : Int) := by rw [HPO.out.tl a hal, hta]
                have e3 : wr.cell? ⟨g3', a, none⟩ = some (.int .i32 (y : Int)) := by rw [hto a hal, hy1]
                obtain ⟨r, hr⟩ : ∃ r, roomAt l a = r := ⟨_, rfl⟩
                have e4 : wr.cell? ⟨g4, a, none⟩ = some (.int .i32 r) := by rw [hcap a hal, hr]
                obtain ⟨en, hen⟩ : ∃ e, lastB ps x a = e := ⟨_, rfl⟩
                have e2 : wr.cell? ⟨g2, a, none⟩ = some (.int .i32 en) := by rw [hn2 a hal, hta, hen]
                have hnb := lastB_lt ps x a
                rw [hen] at hnb
                have HEN : Hid (lastB ps x a = en) := hen
                have hdl := HD.out.1.dl
                obtain ⟨v, hv⟩ : ∃ v, dAt ds3 y = v := ⟨_, rfl⟩
                have em : wr.cell? ⟨H, y, none⟩ = some (.int .i32 v) := by rw [HM.out.m.cell, List.getElem?_map, dAt_get (by omega), hv]; rfl
                obtain ⟨vx, hvx⟩ : ∃ v, dAt ds3 x = v := ⟨_, rfl⟩
                have ex : wr.cell? ⟨H, x, none⟩ = some (.int .i32 vx) := by rw [HM.out.m.cell, List.getElem?_map, dAt_get (by omega), hvx]; rfl
                have hxb := HD.out.1.big hh x HD.out.2.2.1
                have hx0 := HD.out.1.lo x
                rw [hvx] at hxb hx0
                have hwx : IntKind.i32.wrap (vx + 1) = vx + 1 := wrap_i32_in (by omega) (by omega)
                have HWK : Hid (∀ ds', dAt ds' x = dAt ds3 x → (∀ z, 0 ≤ dAt ds3 z → dAt ds' z = dAt ds3 z) → (r ≠ 0 → 0 ≤ dAt ds' y ∧ dAt ds' y ≤ dAt ds' x + 1) → Wq l ds' x a) := fun ds' hxx hsub hyo b z h1 h2 h3 h4 h5 => by
                  by_cases hmb : mi ≤ b
                  · have h6 := HD.out.2.2.2.2 b z hmb h2 h3 h4 h5
                    rw [hxx, hsub z h6.1]
                    exact h6
                  · have h6 := HPO.out.tl b h2
                    rw [h3] at h6
                    by_cases hab : b = a
                    · subst hab
                      rw [hy1] at h5
                      have : z = y := by omega
                      subst this
                      exact hyo (by rw [← hr]; exact h4)
                    · exact absurd (by omega : tailOf ps b = x) (hbtw b (by omega) (by omega))
                have hr0 : 0 ≤ r := by rw [← hr]; exact HRM.out.lo a
                have hr1 : r ≤ 1 := by rw [← hr]; exact HRM.out.hi a
                have HHR : Hid (roomAt l a = r) := hr
                have HY1 : Hid (toAt l a = (y : Int)) := hy1
                have HTW : Hid (toAt l (twin a) = (x : Int)) := htw
                have hskip : (r ≤ 0 ∨ 0 ≤ v) ∨ (0 < r ∧ v < 0) := by omega
                have HVY : Hid (dAt ds3 y = v ∧ dAt ds3 x = vx) := ⟨hv, hvx⟩
                clear hn2 hto hcap hy1 htw hr hen hta hbtw hv hvx hdl
                rcases hskip with hsk | ⟨hrp, hvn⟩
                · have HN : Hid (QB k s l ds3 q3 ∧ DoneQ l ds3 q3 hh ∧ q3[hh]? = some x ∧ Top ds3 q3 x ∧ Wq l ds3 x a) :=
                    ⟨HD.out.1, HD.out.2.1, HD.out.2.2.1, HD.out.2.2.2.1, HWK.out ds3 rfl (fun _ _ => rfl) (fun hrn => by
                      have h0 : 0 ≤ dAt ds3 y := by rw [HVY.out.1]; omega
                      exact ⟨h0, HD.out.2.2.2.1 y ((HD.out.1.seen y hyV).1 h0)⟩)⟩
                  clear HD HWK
                  by_cases hrz : r ≤ 0
                  · have hb1 : decide (0 < r) = false := decide_eq_false (by omega)
                    clear hsk
                    go_wp2
                    go_roundw
                    case rel => exact ⟨a, ds3, q3, en, by omega, hhq3, hq3k, rfl, hnb.1, hnb.2, HEN, HM, HN⟩
                    case measure => simp [intOf]; omega
                  · have hb1 : decide (0 < r) = true := decide_eq_true (by omega)
                    have hb2 : decide (v < 0) = false := decide_eq_false (by omega)
                    clear hsk
                    go_wp2
                    go_roundw
                    case rel => exact ⟨a, ds3, q3, en, by omega, hhq3, hq3k, rfl, hnb.1, hnb.2, HEN, HM, HN⟩
                    case measure => simp [intOf]; omega
                · have hb1 : decide (0 < r) = true := decide_eq_true hrp
                  have hb2 : decide (v < 0) = true := decide_eq_true hvn
                  have hyn : dAt ds3 y < 0 := by rw [HVY.out.1]; exact hvn
                  obtain ⟨hadd, htop, hyq, hyx⟩ := HD.out.1.add (a := a) HD.out.2.2.1 HD.out.2.2.2.1 hyV hyn hal HTW.out HY1.out (by rw [HHR.out]; omega)
                  rw [HVY.out.2] at hadd htop
                  have hql := hadd.qlen
                  have HN : Hid (QB k s l (ds3.set y (vx + 1)) (q3 ++ [y]) ∧ DoneQ l (ds3.set y (vx + 1)) (q3 ++ [y]) hh ∧ (q3 ++ [y])[hh]? = some x ∧ Top (ds3.set y (vx + 1)) (q3 ++ [y]) x ∧ Wq l (ds3.set y (vx + 1)) x a) := by
                    refine ⟨hadd, HD.out.2.1.grow HD.out.1 (by omega) hyn, by rw [List.getElem?_append_left hhq3]; exact HD.out.2.2.1, htop, HWK.out _ (dAt_ne _ hyx) (fun z hz => dAt_ne _ (fun e => by subst e; omega)) (fun _ => ?_)⟩
                    have hxq : 0 ≤ dAt ds3 x := (HD.out.1.seen x hxV).2 (List.mem_of_getElem? HD.out.2.2.1)
                    rw [dAt_self _ (by rw [HD.out.1.dl]; exact hyV), dAt_ne _ hyx, HVY.out.2]
                    rw [HVY.out.2] at hxq
                    omega
                  have fm : wr.frozen? ⟨H, y, none⟩ = false := HM.out.m.frozen y
                  have HMa : Hid (QI w T H Z F k ps l (ds3.set y (vx + 1)) u10 q3 (wr.setCell ⟨H, y, none⟩ (.int .i32 (vx + 1)))) := HM.out.setD y _
                  clear HD HWK hadd htop hyq hyx HM
                  go_upto_region 20 with fail
                  generalize wr.setCell ⟨H, y, none⟩ (.int .i32 (vx + 1)) = wb at *
                  clear e2 e3 e4 em fm ex q2 q3' q4
                  obtain ⟨g6, c6, hv6, hc6⟩ := HMa.out.s.form
                  have ra6 : wb.ownsRow 0 21 1 (.slice (some ⟨g6, 0, none⟩) q3.length c6) q3.length (q3.map fun x : Nat => Value.int .i32 (x : Int)) := by obtain ⟨_, _, _, _, h⟩ := HMa.out.s; rw [hv6] at h; exact h
                  subst hv6
                  go_upto_region 16 with (at_builtin; refine wpList_append_lies _ rfl _ _ _ rfl 0 21 i0 _ 1 4 Try.underlying45 hi0 hz0 hz1 hz2 rfl (by omega) (.slice (some ⟨g6, 0, none⟩) q3.length c6) q3.length (q3.map fun x : Nat => Value.int .i32 (x : Int)) rfl (ra6.alloc _) ⟨wb.heap.size, 0, none⟩ 1 1 [.int .i32 (y : Int)] rfl rfl (World.news_of_block (cs := #[.int .i32 (y : Int)]) (t := 21) (fr := (0, 0)) (heap_alloc_new wb _)) (by simp [Value.oneCell']) (by omega) (by unfold maxLen; omega) (by omega) (Nat.zero_le _) (wb.heap.size + 1) (by simp) ?_; intro g7 cap7 x7 hown7 hgrow7 hat7 hlt7)
                  have HMc : Hid (QI w T H Z F k ps l (ds3.set y (vx + 1)) (.slice (some ⟨g7, 0, none⟩) (q3.length + 1) cap7) (q3 ++ [y]) x7) := HMa.out.push (below_laid wb _) hown7 hgrow7 hat7 (by simp)
                  clear hown7 hgrow7 hat7 hlt7 ra6 HMa
                  obtain ⟨h2, d2, h3, d3, h4, d4, p2, _, _, hn2, _⟩ := HMc.out.z.rows hlk hlp
                  have e2' : x7.cell? ⟨h2, a, none⟩ = some (.int .i32 en) := by rw [hn2 a hal, ← HEN.out]; congr 2; have := HPO.out.tl a hal; rw [HTW.out] at this; congr 1; omega
                  clear hn2
                  go_wp2
                  go_roundw
                  case rel => exact ⟨a, _, _, en, by omega, by rw [List.length_append]; omega, hql, rfl, hnb.1, hnb.2, HEN, HMc, HN⟩
                  case measure => simp [intOf]; omega
        · have hhe : hh = q.length := by omega
          subst hhe
          have hdl := HD.out.1.dl
          obtain ⟨d, hd⟩ : ∃ d, dAt ds t = d := ⟨_, rfl⟩
          have ct : wr.cell? ⟨H, t, none⟩ = some (.int .i32 d) := by rw [HM.out.m.cell, List.getElem?_map, dAt_get (by omega), hd]; rfl
          have hlo := HD.out.1.lo t
          have hhi : dAt ds t ≤ k := by
            by_cases h0 : 0 ≤ dAt ds t
            · obtain ⟨i, hi⟩ := List.mem_iff_getElem?.1 ((HD.out.1.seen t ht).1 h0)
              have := HD.out.1.big i t hi
              have := (List.getElem?_eq_some_iff.1 hi).1
              omega
            · omega
          have HEND : Hid (FewR w H k s t l (.returned (.int .i64 d)) wr) := ⟨ds, by rw [hd], HD.out.1.lev HD.out.2.1, hlo, hhi, HM.out.k⟩
          rw [hd] at hlo hhi
          have hw64 : IntKind.i64.wrap d = d := by rw [IntKind.wrap_i64]; omega
          subst hv5
          clear HD HM hd
          go_wp2
          go_ret
          exact HEND.out
end Go.Proofs.Qxb6605292a
