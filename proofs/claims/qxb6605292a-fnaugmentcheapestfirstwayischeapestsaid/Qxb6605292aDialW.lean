/-
  zzCheapest (f40).
-/
import Derived.Test.Qxb6605292aDialM
import Derived.Test.Qxb6605292aFinA
import Derived.Test.Qxb6605292aMaxW
import Derived.Deep.DeepCutAuto
import Derived.Deep.LoopGhost
namespace Go.Proofs.Qxb6605292a
open Go.RowKit

set_option maxRecDepth 100000 in
set_option maxHeartbeats 8000000 in
theorem cheapest_any {w : World} {T : Nat → Nat} {Z F V s t : Nat} {ps : List Pr} {l : List Arc} {M : Nat → Int} (hz : ZL w T Z F V ps l) (hnew : ∀ b, w.heap.size ≤ b → T b = 0) (hok : PsOk V ps l) (hrm : Rm l) (hE : Edg V s l M) (hV : V ≤ 513) (hs : s < V) (ht : t < V) (_ : ps.length ≤ 500000) :
    Calls Try.prog 40 #[.pointer (some ⟨Z, 0, none⟩), .int .i64 s, .int .i64 t] w fun e w' => ChR w w.heap.size V s t l M e w' := by
  obtain ⟨i0, hi0, hz0, hz1, hz2⟩ := info_parts Try.info21
  obtain ⟨i4, hi4, hz40, hz41, hz42⟩ := info_parts Try.info4
  obtain ⟨i5, hi5, hz50, hz51, hz52⟩ := info_parts Try.info45
  obtain ⟨H, hH⟩ := size_name w
  have HH : Hid (w.heap.size = H) := hH
  have HZ : Hid (∀ wr, Kept (fun b => H ≤ b) w wr → ZL wr T Z F V ps l) := fun wr hk => hz.kept hk (fun b hb hc => by
    have := hnew b (by omega)
    exact hb this)
  have HPO : Hid (PsOk V ps l) := hok
  have HRM : Hid (Rm l) := hrm
  have HEG : Hid (Edg V s l M) := hE
  have c0 : w.cell? ⟨Z, 0, none⟩ = some (.int .i64 V) := hz.get.1
  have hlk := hok.len
  rw [hH]
  clear hz hnew hok hrm hH hE
  have hws : IntKind.i32.wrap (s : Int) = s := wrap32_nat (by omega)
  go_enter Try.func40, Try.ntmps40
  go_upto_region 3 with (at_make; refine wpList_mk _ rfl (.tmp 22) _ _ rfl 21 i0 (.int .i32 0) 4 Try.underlying45 hi0 hz0 hz1 hz2 rfl _ _ _ _ V rfl rfl rfl rfl (by omega) (by unfold maxLen; omega) H HH.out ?_; intro w1 hr1 hb1 hs1)
  have HR0 : Hid (Rw w1 H 21 ((List.replicate V (0 : Int)).map (.int .i32)) ∧ Below H w w1 ∧ w1.heap.size = H + 1) := ⟨by simpa using hr1, hb1, hs1⟩
  clear hr1 hb1 hs1 c0
  go_wp2
  go_loopw [9] (fun c wr => ∃ (k : Nat) (fs : List Int), k ≤ V ∧ c = .int .i64 k ∧ fs.length = V ∧ Hid (Rw wr H 21 (fs.map (.int .i32)) ∧ fs.take k = List.replicate k 1073741824 ∧ Below H w wr ∧ wr.heap.size = H + 1)) (fun c _ => V - (intOf c).toNat)
  case atStart => exact ⟨0, _, Nat.zero_le _, rfl, by simp, HR0.out.1, by simp, HR0.out.2⟩
  case round =>
    obtain ⟨k, fs, hk, rfl, hfl, HR⟩ := hrel
    clear HR0
    by_cases hlt : k < V
    · obtain ⟨u, cu⟩ := HR.out.1.there (o := k) (by rw [List.length_map, hfl]; exact hlt)
      have cf : wr.frozen? ⟨H, k, none⟩ = false := HR.out.1.frozen k
      have HN : Hid (Rw (wr.setCell ⟨H, k, none⟩ (.int .i32 1073741824)) H 21 ((fs.set k 1073741824).map (.int .i32)) ∧ (fs.set k 1073741824).take (k + 1) = List.replicate (k + 1) 1073741824 ∧ Below H w (wr.setCell ⟨H, k, none⟩ (.int .i32 1073741824)) ∧ (wr.setCell ⟨H, k, none⟩ (.int .i32 1073741824)).heap.size = H + 1) := by
        refine ⟨by rw [List.map_set]; exact HR.out.1.set k _, ?_, HR.out.2.2.1.trans (by exact (Below.refl _ _).setCell (p := ⟨H, k, none⟩) (Nat.le_refl _) _), ?_⟩
        · rw [List.take_add_one, List.take_set_of_le (Nat.le_refl _), HR.out.2.1, List.getElem?_set_self (by omega), List.replicate_succ']
          rfl
        · rw [World.size_setCell]; exact HR.out.2.2.2
      clear HR
      go_wp2
      go_roundw
      case rel => exact ⟨k + 1, _, by omega, by go_num, by rw [List.length_set]; exact hfl, HN⟩
      case measure => simp [intOf]; omega
    · have hke : k = V := by omega
      subst hke
      have hfs : fs = List.replicate k 1073741824 := by
        have h := HR.out.2.1
        rw [List.take_of_length_le (by omega)] at h
        exact h
      subst hfs
      have hsz : wr.heap.size = H + 1 := HR.out.2.2.2
      clear hlt hk hfl
      go_upto_region 8 with (at_make; refine wpList_mk _ rfl _ _ _ rfl 4 i4 (.bool false) 1 Try.underlying36 hi4 hz40 hz41 hz42 rfl _ _ _ _ k rfl rfl rfl rfl (by omega) (by unfold maxLen; omega) (H + 1) hsz ?_; intro w2 hr2 hb2 hs2)
      go_upto_region 9 with (at_make; refine wpList_mk _ rfl _ _ _ rfl 45 i5 (.slice none 0 0) 24 Try.underlying68 hi5 hz50 hz51 hz52 rfl _ _ _ _ (k + 1) rfl rfl (by omega) (by omega) (by omega) (by unfold maxLen; omega) (H + 2) hs2 ?_; intro w3 hr3 hb3 hs3)
      have HI0 : Hid (DM w H (List.replicate k 1073741824) (List.replicate k false) (List.replicate (k + 1) nilS) (List.replicate (k + 1) []) w3) := by
        have b2 : Below H w w2 := HR.out.2.2.1.trans (hb2.mono (by omega))
        have b3 : Below H w w3 := b2.trans (hb3.mono (by omega))
        refine DM.start b3 HH.out hs3 ((HR.out.1.below hb2 (by omega)).below hb3 (by omega)) ?_ hr3
        have h := hr2.below hb3 (by omega)
        simpa using h
      clear hr2 hb2 hs2 hr3 hb3 hs3 HR hsz
      have cs : ∃ u, w3.cell? ⟨H, s, none⟩ = some u := ⟨_, (HI0.out.dist (x := s) (by simpa using hs)).1⟩
      obtain ⟨us, cs⟩ := cs
      have fs : w3.frozen? ⟨H, s, none⟩ = false := (HI0.out.dist (x := s) (by simpa using hs)).2
      have HI1 : Hid (DM w H ((List.replicate k 1073741824).set s 0) (List.replicate k false) (List.replicate (k + 1) nilS) (List.replicate (k + 1) []) (w3.setCell ⟨H, s, none⟩ (.int .i32 0))) := HI0.out.setD s 0
      clear HI0
      go_upto_region 10 with fail
      generalize w3.setCell ⟨H, s, none⟩ (.int .i32 0) = w4 at *
      clear cs fs
      have hv0 : (List.replicate (k + 1) nilS)[0]? = some nilS := by simp
      obtain ⟨ao, c1, hvs, _, cB, fB⟩ := HI1.out.slot (i := 0) (by simp)
      rw [hv0] at hvs
      injection hvs with hvs
      have hb0 : (List.replicate (k + 1) ([] : List Nat)).getD 0 [] = [] := by simp
      rw [← hvs] at cB
      unfold nilS at cB
      have ra : w4.ownsRow 0 21 1 (.slice none 0 0) 0 [] := by
        have h := HI1.out.row hv0
        unfold bkt at h
        rw [hb0] at h
        exact h
      have neB : (Value.slice none 0 0).ownBlock ≠ some (H + 2) := HI1.out.ne hv0
      clear hvs
      go_wp2_with (at_builtin; refine wpList_append_lies _ rfl _ _ _ rfl 0 21 i0 _ 1 4 Try.underlying45 hi0 hz0 hz1 hz2 rfl (by omega) (.slice none 0 0) 0 [] rfl (ra.alloc _) ⟨w4.heap.size, 0, none⟩ 1 1 [.int .i32 s] rfl rfl (World.news_of_block (cs := #[.int .i32 s]) (t := 21) (fr := (0, 0)) (heap_alloc_new w4 _)) (by simp [Value.oneCell']) (by omega) (by unfold maxLen; omega) (by omega) (Nat.zero_le _) (w4.heap.size + 1) (by simp) ?_; intro g3 cap3 x3 hown3 hgrow3 hat3 hlt3; have hc3 := cell_grown cB (below_laid _ _) hgrow3 neB; have hf3 := frozen_grown (cell_at cB) fB (below_laid _ _) hgrow3 neB)
      have HI2 : Hid (DM w H ((List.replicate k 1073741824).set s 0) (List.replicate k false) ((List.replicate (k + 1) nilS).set 0 (.slice (some ⟨g3, 0, none⟩) 1 cap3)) ((List.replicate (k + 1) []).set 0 [s]) (x3.setCell ⟨H + 2, 0, none⟩ (.slice (some ⟨g3, 0, none⟩) 1 cap3))) := by
        have h := HI1.out.push (i := 0) (y := s) hv0 (below_laid w4 _) (by unfold bkt; rw [hb0]; exact hown3) hgrow3 hat3 (by simp) hlt3
        rw [hb0] at h
        exact h
      clear hown3 hgrow3 hat3 hlt3 ra neB hc3 hf3 cB fB HI1 hv0 hb0
      generalize x3.setCell ⟨H + 2, 0, none⟩ (.slice (some ⟨g3, 0, none⟩) 1 cap3) = w5 at *
      have HB0 : Hid (DB k s l M ((List.replicate k 1073741824).set s 0) (List.replicate k false) ((List.replicate (k + 1) []).set 0 [s]) 0 0 NoEx) := DB.start hs HEG.out
      go_loopw [12] (fun c wr => ∃ (d : Nat) (ds : List Int) (dn : List Bool) (vs : List Value) (B : List (List Nat)), d ≤ k + 1 ∧ c = .int .i64 d ∧ Hid (DM w H ds dn vs B wr) ∧ Hid (DB k s l M ds dn B d 0 NoEx)) (fun c _ => k + 1 - (intOf c).toNat)
      case atStart => exact ⟨0, _, _, _, _, Nat.zero_le _, rfl, HI2, HB0⟩
      case round =>
        obtain ⟨d, ds, dn, vs, B, hd, rfl, HM, HD⟩ := hrel
        clear HI2 HB0
        by_cases hdk : d ≤ k
        · have hwd : IntKind.i32.wrap (d : Int) = d := wrap32_nat (by omega)
          have hwk : IntKind.i32.wrap (k : Int) = k := wrap32_nat (by omega)
          clear hd
          go_wp2
          go_loopg [13] ((psi ds k).toNat + (B.getD d []).length) (fun gk v13 wr => ∃ (j : Nat) (ds : List Int) (dn : List Bool) (vs : List Value) (B : List (List Nat)), gk = (psi ds k).toNat + (B.getD d []).length - j ∧ j ≤ (B.getD d []).length ∧ v13 = .int .i64 j ∧ Hid (DM w H ds dn vs B wr) ∧ Hid (DB k s l M ds dn B d j NoEx))
          case atStart => exact ⟨0, ds, dn, vs, B, rfl, Nat.zero_le _, rfl, HM, HD⟩
          case round =>
            obtain ⟨j, ds1, dn1, vs1, B1, hgk, hj, rfl, HM1, HD1⟩ := hrel
            clear HM HD
            obtain ⟨ao, cB, hvd, _, csl, _⟩ := HM1.out.slot (i := d) (by rw [HM1.out.vl, HD1.out.bl]; omega)
            have hbl := HD1.out.tots hV d
            have hps := HD1.out.psi0
            have HVD : Hid (vs1[d]? = some (.slice ao (B1.getD d []).length cB)) := hvd
            obtain ⟨L, hL⟩ : ∃ L, (B1.getD d []).length = L := ⟨_, rfl⟩
            have HL : Hid ((B1.getD d []).length = L) := hL
            have HG : Hid (gk = (psi ds1 k).toNat + L - j ∧ 0 ≤ psi ds1 k) := ⟨by rw [← hL]; exact hgk, hps⟩
            rw [hL] at csl hj hbl
            clear hvd hL hgk hps
            by_cases hjl : j < L
            · obtain ⟨x, hx⟩ : ∃ x, (B1.getD d [])[j]? = some x := ⟨_, List.getElem?_eq_getElem (by rw [HL.out]; exact hjl)⟩
              obtain ⟨gx, rfl, cx⟩ := HM1.out.entry HVD.out hx
              have hxV : x < k := HD1.out.blt d x (List.mem_of_getElem? hx)
              have HX : Hid ((B1.getD d [])[j]? = some x) := hx
              have cdn := HM1.out.don (x := x) (by rw [HD1.out.nl]; exact hxV)
              have cdn1 : wr.cell? ⟨H + 1, x, none⟩ = some (.bool (dn1.getD x false)) := cdn.1
              have cdn2 : wr.frozen? ⟨H + 1, x, none⟩ = false := cdn.2
              have cds : wr.cell? ⟨H, x, none⟩ = some (.int .i32 (lbA ds1 x)) := (HM1.out.dist (x := x) (by rw [HD1.out.dl]; exact hxV)).1
              obtain ⟨b, hb⟩ : ∃ b, dn1.getD x false = b := ⟨_, rfl⟩
              obtain ⟨dx, hdx⟩ : ∃ d, lbA ds1 x = d := ⟨_, rfl⟩
              have HBX : Hid (dn1.getD x false = b ∧ lbA ds1 x = dx) := ⟨hb, hdx⟩
              rw [hb] at cdn1
              rw [hdx] at cds
              clear hx cdn hb hdx HVD
              cases b with
              | true =>
                have HN : Hid (DB k s l M ds1 dn1 B1 d (j + 1) NoEx) := HD1.out.pass HX.out (.inl HBX.out.1)
                clear HBX HX HD1
                go_wp2
                go_roundg ((psi ds1 k).toNat + L - (j + 1))
                case rel => exact ⟨j + 1, ds1, dn1, vs1, B1, by rw [HL.out], by rw [HL.out]; omega, by go_num, HM1, HN⟩
                case measure =>
                  have h1 := HG.out
                  omega
              | false =>
                by_cases hdd : dx = (d : Int)
                · have hbn : (dx != (d : Int)) = false := by simp [hdd]
                  have HMt : Hid (DM w H ds1 (dn1.set x true) vs1 B1 (wr.setCell ⟨H + 1, x, none⟩ (.bool true))) := HM1.out.setN x true
                  obtain ⟨m0, hm0⟩ : ∃ m : Int, (L : Int) + psi ds1 k = m := ⟨_, rfl⟩
                  have HDt : Hid (DB k s l M ds1 (dn1.set x true) B1 d (j + 1) (ExM x (2 * ps.length)) ∧ lbA ds1 x = d ∧ ((B1.getD d []).length : Int) + psi ds1 k ≤ m0 ∧ j + 1 ≤ (B1.getD d []).length) := ⟨HD1.out.take HX.out (by rw [HBX.out.2]; exact hdd) (by omega), by rw [HBX.out.2]; exact hdd, by rw [HL.out, hm0]; exact Int.le_refl _, by rw [HL.out]; omega⟩
                  have HM0 : Hid (gk = m0.toNat - j ∧ (j : Int) < m0) := by
                    have h1 := HG.out
                    exact ⟨by omega, by omega⟩
                  have HXD : Hid ((dn1.set x true).getD x false = true) := by
                    show _ = _
                    rw [getD_setB (by rw [HD1.out.nl]; exact hxV), if_pos rfl]
                  clear HBX HX HD1 HM1 hm0 HG HL
                  go_upto_region 20 with fail
                  generalize wr.setCell ⟨H + 1, x, none⟩ (.bool true) = w6 at *
                  generalize dn1.set x true = dnx at *
                  clear cx cdn1 cdn2 cds hbn hdd csl
                  obtain ⟨_, cF, hfc⟩ := (HZ.out w6 HMt.out.k).get
                  have cfx := hfc x hxV
                  obtain ⟨e0, he0⟩ : ∃ e, lastB ps x (2 * ps.length) = e := ⟨_, rfl⟩
                  have HE0 : Hid (lastB ps x (2 * ps.length) = e0) := he0
                  rw [he0] at cfx
                  clear he0 hfc
                  go_wp2
                  go_loopw [15] (fun v15 wr => ∃ (mi : Nat) (ds : List Int) (vs : List Value) (B : List (List Nat)) (e : Int), mi ≤ 2 * ps.length ∧ v15 = .int .i32 e ∧ -1 ≤ e ∧ e < mi ∧ Hid (lastB ps x mi = e) ∧ Hid (DM w H ds dnx vs B wr) ∧ Hid (DB k s l M ds dnx B d (j + 1) (ExM x mi) ∧ lbA ds x = d ∧ ((B.getD d []).length : Int) + psi ds k ≤ m0 ∧ j + 1 ≤ (B.getD d []).length)) (fun b _ => (intOf b + 1).toNat)
                  case atStart =>
                    have hb := lastB_lt ps x (2 * ps.length)
                    rw [HE0.out] at hb
                    exact ⟨2 * ps.length, ds1, vs1, B1, e0, Nat.le_refl _, rfl, hb.1, hb.2, HE0, HMt, HDt⟩
                  case round =>
                    as_aux_lemma =>
                      obtain ⟨mi, ds3, vs3, B3, e, hmi, rfl, he1, he2, HLB, HM3, HD3⟩ := hrel
                      clear HMt HDt HE0 cfx cF
                      have hspec := lastB_spec ps x mi
                      rw [HLB.out] at hspec
                      rcases hspec with ⟨hem, hnone⟩ | ⟨a, hea, ham, hta, hbtw⟩
                      · subst hem
                        have HN : Hid (DB k s l M ds3 dnx B3 d (j + 1) NoEx ∧ ((B3.getD d []).length : Int) + psi ds3 k ≤ m0 ∧ j + 1 ≤ (B3.getD d []).length ∧ 0 ≤ psi ds3 k) := by
                          have h := HD3.out.1.down (a := 0) (fun b y _ hb h2 h3 _ _ _ => by
                            have h6 := HPO.out.tl b h2
                            rw [h3] at h6
                            exact absurd (by omega : tailOf ps b = x) (hnone b (by omega)))
                          exact ⟨h.rowEnd, HD3.out.2.2.1, HD3.out.2.2.2, h.psi0⟩
                        clear HD3 hnone
                        go_wp2
                        go_roundg ((psi ds3 k).toNat + (B3.getD d []).length - (j + 1))
                        case rel => exact ⟨j + 1, ds3, dnx, vs3, B3, rfl, HN.out.2.2.1, by go_num, HM3, HN.out.1⟩
                        case measure =>
                          have h1 := HM0.out
                          have h2 := HN.out.2
                          omega
                      · subst hea
                        have hal : a < l.length := by omega
                        have hlp : 0 < l.length := by omega
                        obtain ⟨g2, c2, g3', c3, g4, c4, q2, q3', q4, hn2, hto, hcap, _⟩ := (HZ.out wr HM3.out.k).rows hlk hlp
                        obtain ⟨g5, c5, q5, hcost⟩ := (HZ.out wr HM3.out.k).costs hlp
                        obtain ⟨y, hy1, hyV⟩ := HPO.out.to hal
                        have htw : toAt l (twin a) = (x : Int) := by rw [HPO.out.tl a hal, hta]
                        have e3 : wr.cell? ⟨g3', a, none⟩ = some (.int .i32 (y : Int)) := by rw [hto a hal, hy1]
                        obtain ⟨r, hr⟩ : ∃ r, roomAt l a = r := ⟨_, rfl⟩
                        have e4 : wr.cell? ⟨g4, a, none⟩ = some (.int .i32 r) := by rw [hcap a hal, hr]
                        obtain ⟨ca, hca⟩ : ∃ r, costAt l a = r := ⟨_, rfl⟩
                        have e5 : wr.cell? ⟨g5, a, none⟩ = some (.int .i32 ca) := by rw [hcost a hal, hca]
                        obtain ⟨en, hen⟩ : ∃ e, lastB ps x a = e := ⟨_, rfl⟩
                        have e2 : wr.cell? ⟨g2, a, none⟩ = some (.int .i32 en) := by rw [hn2 a hal, hta, hen]
                        have hnb := lastB_lt ps x a
                        rw [hen] at hnb
                        have HEN : Hid (lastB ps x a = en) := hen
                        have HWK : Hid (∀ (ds' : List Int) (B' : List (List Nat)), DB k s l M ds' dnx B' d (j + 1) (ExM x mi) → (roomAt l a ≠ 0 → lbA ds' x + costAt l a ≤ k → lbA ds' y ≤ lbA ds' x + costAt l a) → DB k s l M ds' dnx B' d (j + 1) (ExM x a)) := fun ds' B' h hc => h.down (a := a) (fun b z hab hbm h2 h3 h4 h5 h6 => by
                          by_cases hb : b = a
                          · subst hb
                            have : z = y := by omega
                            subst this
                            exact hc h5 h6
                          · have h7 := HPO.out.tl b h2
                            rw [h3] at h7
                            exact absurd (by omega : tailOf ps b = x) (hbtw b (by omega) (by omega)))
                        have hr0 : 0 ≤ r := by rw [← hr]; exact HRM.out.lo a
                        have hr1 : r ≤ 1 := by rw [← hr]; exact HRM.out.hi a
                        have HHR : Hid (roomAt l a = r) := hr
                        have HCA : Hid (costAt l a = ca) := hca
                        have HY1 : Hid (toAt l a = (y : Int)) := hy1
                        have HTW : Hid (toAt l (twin a) = (x : Int)) := htw
                        clear hn2 hto hcap hcost hy1 htw hr hca hen hbtw
                        by_cases hrz : r ≤ 0
                        · have hb1 : decide (r ≤ 0) = true := decide_eq_true hrz
                          have HN : Hid (DB k s l M ds3 dnx B3 d (j + 1) (ExM x a) ∧ lbA ds3 x = d ∧ ((B3.getD d []).length : Int) + psi ds3 k ≤ m0 ∧ j + 1 ≤ (B3.getD d []).length) := ⟨HWK.out ds3 B3 HD3.out.1 (fun hh => absurd (by rw [HHR.out]; omega) hh), HD3.out.2⟩
                          clear HD3 HWK
                          go_wp2
                          go_roundw
                          case rel => exact ⟨a, ds3, vs3, B3, en, by omega, rfl, hnb.1, hnb.2, HEN, HM3, HN⟩
                          case measure => simp [intOf]; omega
                        · have hb1 : decide (r ≤ 0) = false := decide_eq_false hrz
                          have hrn : roomAt l a ≠ 0 := by rw [HHR.out]; omega
                          have hca0 : 0 ≤ ca := by rw [← HCA.out]; exact HEG.out.c0 a hal hrn
                          have hca1 : ca ≤ 1 := by rw [← HCA.out]; exact HEG.out.c1 a hal hrn
                          have HRN : Hid (roomAt l a ≠ 0) := hrn
                          obtain ⟨nk, hnk⟩ : ∃ nk : Nat, (d : Int) + ca = nk := Int.eq_ofNat_of_zero_le (by omega)
                          have hwn : IntKind.i32.wrap ((d : Int) + ca) = (d : Int) + ca := by rw [hnk]; exact wrap32_nat (by omega)
                          have hdn : d ≤ nk := by omega
                          have hdn2 : nk ≤ d + 1 := by omega
                          have HNK : Hid ((nk : Int) = (d : Int) + ca) := hnk.symm
                          obtain ⟨dy, hdy⟩ : ∃ v, lbA ds3 y = v := ⟨_, rfl⟩
                          have cdy : wr.cell? ⟨H, y, none⟩ = some (.int .i32 dy) := by rw [(HM3.out.dist (x := y) (by rw [HD3.out.1.dl]; exact hyV)).1, hdy]
                          have fdy : wr.frozen? ⟨H, y, none⟩ = false := (HM3.out.dist (x := y) (by rw [HD3.out.1.dl]; exact hyV)).2
                          have HDY : Hid (lbA ds3 y = dy) := hdy
                          clear hrn hdy
                          go_upto_region 25 with fail
                          try rw [hnk]
                          clear hnk hwn hca0 hca1
                          by_cases hlt1 : (nk : Int) < dy
                          · have hb2 : decide ((nk : Int) < dy) = true := decide_eq_true hlt1
                            by_cases hle1 : nk ≤ k
                            · have hrx := HD3.out.1.relax (a := a) (nd := (nk : Int)) hV HEG.out hxV HXD.out HD3.out.2.1 HD3.out.2.2.2 hal HTW.out HY1.out hyV HRN.out (by rw [HCA.out]; exact HNK.out) (by rw [HDY.out]; exact hlt1) (by omega)
                              rw [Int.toNat_natCast] at hrx
                              have HN : Hid (DB k s l M (ds3.set y (nk : Int)) dnx (B3.set nk (B3.getD nk [] ++ [y])) d (j + 1) (ExM x a) ∧ lbA (ds3.set y (nk : Int)) x = d ∧ (((B3.set nk (B3.getD nk [] ++ [y])).getD d []).length : Int) + psi (ds3.set y (nk : Int)) k ≤ m0 ∧ j + 1 ≤ ((B3.set nk (B3.getD nk [] ++ [y])).getD d []).length) := by
                                refine ⟨HWK.out _ _ hrx.1 (fun _ _ => ?_), hrx.2.1, by have := hrx.2.2.1; have := HD3.out.2.2.1; omega, hrx.2.2.2⟩
                                rw [hrx.2.1, lbA_same (by rw [HD3.out.1.dl]; exact hyV), HCA.out, ← HNK.out]
                                exact Int.le_refl _
                              have hl6 := HD3.out.1.tots hV nk
                              have HMa : Hid (DM w H (ds3.set y (nk : Int)) dnx vs3 B3 (wr.setCell ⟨H, y, none⟩ (.int .i32 (nk : Int)))) := HM3.out.setD y _
                              have hbl3 : nk < vs3.length := by rw [HM3.out.vl, HD3.out.1.bl]; omega
                              clear HD3 HWK hrx HM3
                              go_upto_region 28 with fail
                              generalize wr.setCell ⟨H, y, none⟩ (.int .i32 (nk : Int)) = wb at *
                              clear e2 e3 e4 e5 cdy fdy q2 q3' q4 q5 hb2 hlt1
                              obtain ⟨ao6, c6, hv6, hc6, cs6, fs6⟩ := HMa.out.slot (i := nk) hbl3
                              have ra6 : wb.ownsRow 0 21 1 (.slice ao6 (B3.getD nk []).length c6) (B3.getD nk []).length (bkt B3 nk) := HMa.out.row hv6
                              have ne6 : (Value.slice ao6 (B3.getD nk []).length c6).ownBlock ≠ some (H + 2) := HMa.out.ne hv6
                              have HV6 : Hid (vs3[nk]? = some (.slice ao6 (B3.getD nk []).length c6)) := hv6
                              obtain ⟨L6, hL6⟩ : ∃ L, (B3.getD nk []).length = L := ⟨_, rfl⟩
                              have HL6 : Hid ((B3.getD nk []).length = L6) := hL6
                              rw [hL6] at cs6 ra6 ne6 hl6 hc6
                              clear hv6 hL6
                              go_upto_region 22 with (at_builtin; refine wpList_append_lies _ rfl _ _ _ rfl 0 21 i0 _ 1 4 Try.underlying45 hi0 hz0 hz1 hz2 rfl (by omega) (.slice ao6 L6 c6) L6 (bkt B3 nk) rfl (ra6.alloc _) ⟨wb.heap.size, 0, none⟩ 1 1 [.int .i32 (y : Int)] rfl rfl (World.news_of_block (cs := #[.int .i32 (y : Int)]) (t := 21) (fr := (0, 0)) (heap_alloc_new wb _)) (by simp [Value.oneCell']) (by omega) (by unfold maxLen; omega) (by omega) (Nat.zero_le _) (wb.heap.size + 1) (by simp) ?_; intro g7 cap7 x7 hown7 hgrow7 hat7 hlt7; have hc7 := cell_grown cs6 (below_laid _ _) hgrow7 ne6; have hf7 := frozen_grown (cell_at cs6) fs6 (below_laid _ _) hgrow7 ne6)
                              have HMc : Hid (DM w H (ds3.set y (nk : Int)) dnx (vs3.set nk (.slice (some ⟨g7, 0, none⟩) (L6 + 1) cap7)) (B3.set nk (B3.getD nk [] ++ [y])) (x7.setCell ⟨H + 2, nk, none⟩ (.slice (some ⟨g7, 0, none⟩) (L6 + 1) cap7))) := by
                                have h := HMa.out.push (i := nk) (y := y) HV6.out (below_laid wb _) (by rw [HL6.out]; exact hown7) (by rw [HL6.out]; exact hgrow7) (by rw [HL6.out]; exact hat7) (by simp) hlt7
                                rw [HL6.out] at h
                                exact h
                              clear hown7 hgrow7 hat7 hlt7 ra6 HMa ne6 hc7 hf7 cs6 fs6
                              generalize x7.setCell ⟨H + 2, nk, none⟩ (.slice (some ⟨g7, 0, none⟩) (L6 + 1) cap7) = wc at *
                              obtain ⟨h2, d2, h3, d3, h4, d4, p2, _, _, hn2, _⟩ := (HZ.out wc HMc.out.k).rows hlk hlp
                              have e2' : wc.cell? ⟨h2, a, none⟩ = some (.int .i32 en) := by rw [hn2 a hal, hta, HEN.out]
                              clear hn2
                              go_wp2
                              go_roundw
                              case rel => exact ⟨a, _, _, _, en, by omega, rfl, hnb.1, hnb.2, HEN, HMc, HN⟩
                              case measure => simp [intOf]; omega
                            · have HN : Hid (DB k s l M ds3 dnx B3 d (j + 1) (ExM x a) ∧ lbA ds3 x = d ∧ ((B3.getD d []).length : Int) + psi ds3 k ≤ m0 ∧ j + 1 ≤ (B3.getD d []).length) := ⟨HWK.out ds3 B3 HD3.out.1 (fun _ hh => by
                                rw [HD3.out.2.1, HCA.out, ← HNK.out] at hh
                                omega), HD3.out.2⟩
                              clear HD3 HWK
                              go_wp2
                              go_roundw
                              case rel => exact ⟨a, ds3, vs3, B3, en, by omega, rfl, hnb.1, hnb.2, HEN, HM3, HN⟩
                              case measure => simp [intOf]; omega
                          · have hb2 : decide ((nk : Int) < dy) = false := decide_eq_false hlt1
                            have HN : Hid (DB k s l M ds3 dnx B3 d (j + 1) (ExM x a) ∧ lbA ds3 x = d ∧ ((B3.getD d []).length : Int) + psi ds3 k ≤ m0 ∧ j + 1 ≤ (B3.getD d []).length) := ⟨HWK.out ds3 B3 HD3.out.1 (fun _ _ => by
                              rw [HD3.out.2.1, HCA.out, ← HNK.out, HDY.out]
                              omega), HD3.out.2⟩
                            clear HD3 HWK
                            go_wp2
                            go_roundw
                            case rel => exact ⟨a, ds3, vs3, B3, en, by omega, rfl, hnb.1, hnb.2, HEN, HM3, HN⟩
                            case measure => simp [intOf]; omega
                · have hbn : (dx != (d : Int)) = true := by rw [bne_iff_ne]; exact hdd
                  have HN : Hid (DB k s l M ds1 dn1 B1 d (j + 1) NoEx) := HD1.out.pass HX.out (.inr (by rw [HBX.out.2]; exact hdd))
                  clear HBX HX HD1 hdd
                  go_wp2
                  go_roundg ((psi ds1 k).toNat + L - (j + 1))
                  case rel => exact ⟨j + 1, ds1, dn1, vs1, B1, by rw [HL.out], by rw [HL.out]; omega, by go_num, HM1, HN⟩
                  case measure =>
                    have h1 := HG.out
                    omega
            · have HN : Hid (DB k s l M ds1 dn1 B1 (d + 1) 0 NoEx) := HD1.out.next (by rw [HL.out]; omega)
              clear HD1
              go_wp2
              go_roundw
              case rel => exact ⟨d + 1, ds1, dn1, vs1, B1, by omega, by go_num, HM1, HN⟩
              case measure => simp [intOf]; omega
        · have HF : Hid (Dend k s l M ds) := HD.out.fin (by omega)
          have hrg := HF.out.rng t ht
          obtain ⟨dt, hdt⟩ : ∃ v, lbA ds t = v := ⟨_, rfl⟩
          have cdt : wr.cell? ⟨H, t, none⟩ = some (.int .i32 dt) := by rw [(HM.out.dist (x := t) (by rw [HD.out.dl]; exact ht)).1, hdt]
          have HEND : Hid (∀ z : Int, z = (if dt = 1073741824 then -1 else dt) → ChR w H k s t l M (.returned (.int .i64 z)) wr) := fun z hz => ⟨ds, by rw [hdt, hz], HF.out, HM.out.k⟩
          rw [hdt] at hrg
          clear hdt HF HM HD
          by_cases hinf : dt = 1073741824
          · have hb : (dt == 1073741824) = true := by rw [beq_iff_eq]; exact hinf
            go_wp2
            go_ret
            exact HEND.out (-1) (by rw [if_pos hinf])
          · have hb : (dt == 1073741824) = false := by rw [beq_eq_false_iff_ne]; exact hinf
            have hw64 : IntKind.i64.wrap dt = dt := by rw [IntKind.wrap_i64]; omega
            go_wp2
            go_ret
            exact HEND.out dt (by rw [if_neg hinf])
end Go.Proofs.Qxb6605292a
