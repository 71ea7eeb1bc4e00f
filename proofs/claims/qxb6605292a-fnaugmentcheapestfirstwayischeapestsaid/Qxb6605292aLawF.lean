/-
  The law FnAugmentCheapestFirstWayIsCheapest (f8), walked.
-/
import Derived.Test.Qxb6605292aEnd5
import Derived.Test.Qxb6605292aDialW
import Derived.Test.Qxb6605292aSmall2
import Derived.Test.Qxb6605292aNis
import Derived.Deep.CutBlock
import Derived.Deep.DeepCutAuto
namespace Go.Proofs.Qxb6605292a
open Go.RowKit

set_option maxRecDepth 100000 in
set_option maxHeartbeats 8000000 in
theorem law5_any (n i sk : Int) (lk : Bool) (vl vw vx vk : Value) (rows : List (List Int)) (ws : List Int) (xs ks : List Bool) (w : World) (hvl : RSl w vl rows) (hvw : KSl .i64 w vw ws) (hvx : BSl w vx xs) (hvk : BSl w vk ks) :
    Calls Try.prog 8 #[.int .i64 n, .bool lk, vl, vw, .int .i64 i, vx, vk, .int .i64 sk] w fun e w' => NisR w e w' := by
  have HVL : Hid (RSl w vl rows) := hvl
  have HVW : Hid (KSl .i64 w vw ws) := hvw
  have HVX : Hid (BSl w vx xs) := hvx
  have HVK : Hid (BSl w vk ks) := hvk
  have HQ : Hid (NisR w (.returned (.bool true)) w) := ⟨rfl, Below.refl _ _⟩
  obtain ⟨ra, rc, rfl, hrm, _⟩ := hvl
  obtain ⟨wa, wc, rfl, hwm, _⟩ := hvw
  obtain ⟨xa, xc, rfl, hxm, _⟩ := hvx
  obtain ⟨ka, kc, rfl, hkm, hk0⟩ := hvk
  clear hk0
  go_enter Try.func8, Try.ntmps8
  go_wp2_with fail
  refine (bytes6_any n i sk lk _ _ _ _ rows ws xs ks w HVL.out HVW.out HVX.out HVK.out).mono ?_
  rintro e w1 ⟨⟨r, rfl⟩, rfl⟩
  cases r with
  | false =>
    go_wp2
    go_ret
    exact HQ.out
  | true =>
    go_wp2_with fail
    refine (small_any _ wa none xa ka ws.length 0 xs.length ks.length wc 0 xc kc rows _ HVL.out hwm (Nat.zero_le _) hxm hkm).mono ?_
    rintro e w2 ⟨⟨r, rfl, hr⟩, rfl⟩
    cases r with
    | false =>
      go_wp2
      go_ret
      exact HQ.out
    | true =>
      have hsm := hr rfl
      clear hr
      by_cases hgd : n < 1 ∨ 256 < n ∨ i < 0 ∨ n ≤ i ∨ sk < 0 ∨ 2 * n ≤ sk
      · by_cases g1 : n < 1
        · go_wp2; go_ret; exact HQ.out
        · by_cases g2 : 256 < n
          · go_wp2; go_ret; exact HQ.out
          · by_cases g3 : i < 0
            · go_wp2; go_ret; exact HQ.out
            · by_cases g4 : n ≤ i
              · go_wp2; go_ret; exact HQ.out
              · by_cases g5 : sk < 0
                · go_wp2; go_ret; exact HQ.out
                · have g6 : 2 * n ≤ sk := by omega
                  have hw2n : IntKind.i64.wrap (2 * n) = 2 * n := by rw [IntKind.wrap_i64]; omega
                  clear hgd
                  go_wp2; go_ret; exact HQ.out
      · obtain ⟨N, rfl⟩ : ∃ N : Nat, n = (N : Int) := Int.eq_ofNat_of_zero_le (by omega)
        obtain ⟨I, rfl⟩ : ∃ I : Nat, i = (I : Int) := Int.eq_ofNat_of_zero_le (by omega)
        obtain ⟨J, rfl⟩ : ∃ J : Nat, sk = (J : Int) := Int.eq_ofNat_of_zero_le (by omega)
        have hN1 : 1 ≤ N := by omega
        have hN2 : N ≤ 256 := by omega
        have hI : I < N := by omega
        have hJ : J < 2 * N := by omega
        clear hgd
        obtain ⟨B, hB⟩ : ∃ B, (ka.isSome && decide (ks.length < N)) = B := ⟨_, rfl⟩
        have HBB : Hid ((ka.isSome && decide (ks.length < N)) = B) := hB
        clear hB
        have hw2n : IntKind.i64.wrap (2 * (N : Int)) = 2 * N := by rw [IntKind.wrap_i64]; omega
        go_upto_region 7 with fail
        go_cut [81] (fun v wc => v = .bool B ∧ Hid (wc = w2))
        case first =>
          cases ka with
          | none =>
            have HB1 : Hid (B = false) := by show _ = _; rw [← HBB.out]; rfl
            have h36 : ∀ (w : World) (m c : Nat), (binOp .neq 36 (.slice none m c) (.slice none 0 0)).run Try.prog w = .ok (.bool false) w := fun w m c => run_neq_slice_nil_any w _ _ none m c 0 0 Try.underlying36
            go_wp2
            go_meet
            case rel => exact ⟨by rw [HB1.out], rfl⟩
          | some p =>
            have HB1 : Hid (B = decide (ks.length < N)) := by show _ = _; rw [← HBB.out]; rfl
            have h36 : ∀ w : World, (binOp .neq 36 (.slice (some p) ks.length kc) (.slice none 0 0)).run Try.prog w = .ok (.bool true) w := fun w => run_neq_slice_nil_any w _ _ (some p) ks.length kc 0 0 Try.underlying36
            go_wp2
            go_meet
            case rel => exact ⟨by rw [HB1.out], rfl⟩
        case rest =>
        obtain ⟨rfl, hwc⟩ := hcut
        have hwc' := hwc.out.symm
        clear hwc
        subst hwc'
        cases B with
        | true =>
          go_wp2
          go_ret
          exact HQ.out
        | false =>
        have HKA : Hid (∀ a m c, Value.slice ka ks.length kc = .slice (some a) m c → N ≤ ks.length) := by
          intro a m c e
          injection e with e1 e2 e3
          have h := HBB.out
          rw [e1] at h
          simp at h
          exact h
        clear HBB hw2n
        go_wp2_with fail
        refine (inRange_any _ ws N _ HVW.out).mono ?_
        rintro e w3 ⟨rfl, rfl⟩
        cases hin : inR N ws with
        | false =>
          clear hin
          go_wp2
          go_ret
          exact HQ.out
        | true =>
          have HIN : Hid (inR N ws = true) := hin
          clear hin
          go_wp2_with fail
          refine (linksInRange_any N lk _ rows _ HVL.out).mono ?_
          rintro e w5 ⟨rfl, rfl⟩
          cases hlk : linksOk N lk rows with
          | false =>
            clear hlk
            go_wp2
            go_ret
            exact HQ.out
          | true =>
            have HLK : Hid (linksOk N lk rows = true) := hlk
            have HSS : Hid (∀ r ∈ rows, r.length ≤ 131072) := fun r hr => by have := row_le_sum hr; omega
            clear hlk
            go_wp2_with fail
            refine (cloneLinks_any _ rows _ HVL.out (by omega) (fun r hr => by have := HSS.out r hr; omega)).mono ?_
            rintro e w6 ⟨vl2, rfl, hc6, hb6⟩
            have HB6 : Hid (Below w5.heap.size w5 w6) := hb6
            have HC6 : Hid (CRows w5.heap.size w6 vl2 rows) := hc6
            have HVW6 : Hid (KSl .i64 w6 (.slice wa ws.length wc) ws) := HVW.out.later hb6
            have HVX6 : Hid (BSl w6 (.slice xa xs.length xc) xs) := HVX.out.later hb6
            have HVK6 : Hid (BSl w6 (.slice ka ks.length kc) ks) := HVK.out.later hb6
            clear hb6 hc6 HVL HVW HVX HVK HQ
            go_wp2_with fail
            refine (cloneInts_any _ ws _ HVW6.out (by omega)).mono ?_
            rintro e w7 ⟨vw2, rfl, hc7, hb7⟩
            have HB7 : Hid (Below w5.heap.size w5 w7) := below_all HB6.out hb7
            have HC7 : Hid (CRows w5.heap.size w7 vl2 rows) := HC6.out.later hb7
            have HW7 : Hid (CSl .i64 3 w6.heap.size w7 vw2 ws) := hc7
            have HVX7 : Hid (BSl w7 (.slice xa xs.length xc) xs) := HVX6.out.later hb7
            have HVK7 : Hid (BSl w7 (.slice ka ks.length kc) ks) := HVK6.out.later hb7
            have hf7 : ∃ ao cap, vw2 = .slice ao ws.length cap ∧ ∀ b off, ao = some ⟨b, off, none⟩ → b < w7.heap.size := by
              rcases hc7 with ⟨rfl, rfl⟩ | ⟨g, _, rfl, hr⟩
              · exact ⟨none, 0, rfl, fun b off h => by cases h⟩
              · exact ⟨some ⟨g, 0, none⟩, ws.length, rfl, fun b off h => by cases h; exact hr.lt⟩
            obtain ⟨wa2, wc2, rfl, hlw7⟩ := hf7
            have HLW7 : Hid (∀ b off, wa2 = some ⟨b, off, none⟩ → b < w7.heap.size) := hlw7
            clear hb7 hc7 hlw7 HB6 HC6 HVW6 HVX6 HVK6
            go_wp2_with fail
            refine (cloneBools_any _ xs _ HVX7.out (by omega)).mono ?_
            rintro e wk ⟨vx2, rfl, hc8, hb8⟩
            have HBk : Hid (Below w5.heap.size w5 wk) := below_all HB7.out hb8
            have HCk : Hid (CRows w5.heap.size wk vl2 rows) := HC7.out.later hb8
            have HWk : Hid (CSl .i64 3 w6.heap.size wk (.slice wa2 ws.length wc2) ws) := HW7.out.later hb8
            have HXk : Hid (BSl wk vx2 xs) := hc8.bsl hxm
            have HLk : Hid (∀ b off, wa2 = some ⟨b, off, none⟩ → b < wk.heap.size) := fun b off h => Nat.lt_of_lt_of_le (HLW7.out b off h) hb8.size
            have HVKk : Hid (BSl wk (.slice ka ks.length kc) ks) := HVK7.out.later hb8
            have hfk : ∃ ao cap, vx2 = .slice ao xs.length cap := by obtain ⟨ao, cap, h, _⟩ := hc8.bsl hxm; exact ⟨ao, cap, h⟩
            obtain ⟨xk, xkc, rfl⟩ := hfk
            clear hb8 hc8 HB7 HC7 HW7 HVX7 HLW7 HVK7
            go_wp2_with fail
            refine (cloneBlk_any _ ks _ N HVKk.out (by omega) HKA.out hN1).mono ?_
            rintro e w8 ⟨vb, bl, rfl, hck, hb8⟩
            have HB8 : Hid (Below w5.heap.size w5 w8) := below_all HBk.out hb8
            have HRS : Hid (RSl w8 vl2 rows) := (HCk.out.later hb8).rsl (by unfold maxLen; omega) (fun r hr => by have := HSS.out r hr; unfold maxLen; omega)
            have HKW : Hid (KSl .i64 w8 (.slice wa2 ws.length wc2) ws) := (HWk.out.later hb8).ksl hwm
            have HBX : Hid (BSl w8 (.slice xk xs.length xkc) xs) := HXk.out.later hb8
            have HLW : Hid (∀ b off, wa2 = some ⟨b, off, none⟩ → b < w8.heap.size) := fun b off h => Nat.lt_of_lt_of_le (HLk.out b off h) hb8.size
            obtain ⟨ba, bm, bc, rfl⟩ := hck.form
            have HBC : Hid (BlkC wk.heap.size w8 (.slice ba bm bc) N bl) := hck
            clear hb8 hck HBk HCk HWk HXk HLk HVKk HKA
            obtain ⟨ya, yc, rfl, hym, _⟩ := HRS.out
            have HRS' : Hid (RSl w8 (.slice ya rows.length yc) rows) := HRS
            have HBX' : Hid (BSl w8 (.slice xk xs.length xkc) xs) := HBX
            clear HRS HBX
            go_wp2_with fail
            refine (outSet_any N I _ ws _ HKW.out HIN.out hI hN2).mono ?_
            obtain ⟨O, hO⟩ : ∃ O, outL N ws I = O := ⟨_, rfl⟩
            have HOU : Hid (outL N ws I = O) := hO
            have HOL : Hid (O.length = N) := by show _ = _; rw [← hO, outL_len]
            rw [hO]
            clear hO
            rintro e wo ⟨gO, rfl, hro, hgo, hbo⟩
            rw [HOL.out]
            have HRO0 : Hid (Rw wo gO 4 (O.map .bool)) := hro
            have HBO : Hid (Below w8.heap.size w8 wo) := hbo
            clear hro hgo hbo
            go_wp2_with fail
            refine (openSet_any N gO O xs _ wo HRO0.out HOL.out hN2 (HBX'.out.later HBO.out)).mono ?_
            obtain ⟨S, hS⟩ : ∃ S, openL N O xs N = S := ⟨_, rfl⟩
            have HSL : Hid (S.length = N) := by show _ = _; rw [← hS, openL_len]
            have HSB : Hid (∀ v, v < N → S.getD v false = true → isOut O v = false) := by rw [← hS]; exact openL_sub N O xs
            rw [hS]
            clear hS
            rintro e ws0 ⟨gS, rfl, hrs, hgs, hbs⟩
            rw [HSL.out]
            have HRS0 : Hid (Rw ws0 gS 4 (S.map .bool)) := hrs
            have HRO1 : Hid (Rw ws0 gO 4 (O.map .bool)) := HRO0.out.below hbs HRO0.out.lt
            have HBS : Hid (Below w8.heap.size w8 ws0) := below_all HBO.out hbs
            have HBV : Hid (∀ w', Below ws0.heap.size ws0 w' → BlkS w' (fun _ => 0) (.slice ba bm bc) N bl) := fun w' h => ((HBC.out.later HBS.out).blkS (T := fun _ => 0) (fun _ _ => rfl)).below (Nat.le_refl _) h (fun _ _ => rfl)
            clear hrs hgs hbs HRO0 HBO HBC
            go_wp2_with fail
            refine (group_any N lk _ rows _ (HRS'.out.later HBS.out) (by omega) (fun r hr => by have := HSS.out r hr; omega)).mono ?_
            rintro e w9 ⟨G, nb, rfl, hr9, hG, hnb, hb9, hsz⟩
            have HST : Hid (Start w9 (retag (fun _ => 0) G 14) G N lk rows none) := start_new hr9 hnb hsz
            have HC0 : Hid (w9.cell? ⟨G, 0, none⟩ = some (.int .i64 N)) := hr9.at rfl
            have HB9 : Hid (Below ws0.heap.size ws0 w9) := hb9
            have HGG : Hid (ws0.heap.size ≤ G) := hG
            have HSZ : Hid (w9.heap.size = G + 1) := hsz
            have HBD : Hid ((finPairs O (reachL N lk rows) N).length ≤ 400000) := pairs_bound N lk rows O (by omega) (by omega)
            have HRR : Hid (∀ v, v < N → ∀ z ∈ reachL N lk rows v, 0 ≤ z ∧ z < N) := fun v hv z hz => by
              obtain ⟨j, hj, rfl⟩ := List.getElem_of_mem hz
              exact reach_get HLK.out hv hj
            clear hr9 hG hnb hb9 hsz
            unfold ptr0
            go_wp2_with fail
            have hfin := finder_any HST.out wa2 wc2 ws I (by omega) (by omega) HC0.out (fun r hr => by have := HSS.out r hr; omega) (by omega) (HKW.out.later (below_all HBS.out HB9.out)) (fun b off h => by
              have h1 := HLW.out b off h
              have h2 := HGG.out
              have h3 := HBS.out.size
              unfold retag
              rw [if_neg (by omega)]) HIN.out HLK.out (by rw [HOU.out]; exact HBD.out)
            refine (zzfinder_any (R := fun e w' => FinderR w9 (retag (fun _ => 0) G 14) G N lk rows none ws I e w') (hfin.mono fun e w' h => ⟨?_, h⟩)).mono ?_
            · obtain ⟨s, m, h1, _⟩ := h
              exact ⟨s.F, h1⟩
            rintro e w10 ⟨s, m, rfl, hsG, hsn, hini, hfs, hout, hnet, htc, hbl, hsrc⟩
            obtain ⟨T1, hg1, st1⟩ := hfs
            obtain ⟨s1, hs1⟩ : ∃ s1, s.put m = s1 := ⟨_, rfl⟩
            have hF1 : s1.F = s.F := by rw [← hs1]; rfl
            have hn1 : s1.n = N := by rw [← hs1]; exact hsn
            have hG1 : s1.G = G := by rw [← hs1]; exact hsG
            rw [HOU.out] at hnet hsrc hout
            rw [hs1] at hg1
            obtain ⟨reach, hre⟩ : ∃ r, reachL N lk rows = r := ⟨_, rfl⟩
            have HRE : Hid (reachL N lk rows = reach) := hre
            rw [hre] at hnet hsrc HBD HRR
            have hsl : ∀ v, v < N → isOut O v = false → s1.source[v]? = some ((srcI O reach N v : Nat) : Int) := fun v hv ho => by rw [← hs1]; exact hsrc v hv ho
            have hnet1 : (s1.nodes, s1.arcs) = netOf (2 * N + 1) (finPairs O reach N) := by rw [← hs1]; exact hnet
            have har1 : s1.arcs = (netOf (2 * N + 1) (finPairs O reach N)).2 := by rw [← hnet1]
            have HPL : Hid (Play w10 T1 lk rows (OpC N O S reach s1 0) w10) := by
              refine ⟨T1, s1, hg1, Step.refl _ _ _, pl_new3 (O := O) (reach := reach) (by rw [hn1]; exact hnet1) (by rw [hn1]; exact HRR.out) (by rw [hn1]; exact HBD.out) (by rw [hn1]; exact fun v hv ho => hsl v hv ho) (by rw [← hs1]; exact htc) (by rw [← hs1]; exact hini.1) (fun x y hx => ?_), ?_, by rw [← hs1]; exact htc, fun x y hx => ?_, fun a => by rw [har1]⟩
              · have hx' : s.seen[x]? = some y := by rw [← hs1] at hx; exact hx
                rw [hini.2.1] at hx'
                have := List.eq_of_mem_replicate (List.mem_of_getElem? hx')
                omega
              · rw [har1]; exact Opd.start N O S reach
              · have hx' : s.queued[x]? = some y := by rw [← hs1] at hx; exact hx
                rw [hini.2.2.1] at hx'
                have := List.eq_of_mem_replicate (List.mem_of_getElem? hx')
                have hw0 : s1.walk = 0 := by rw [← hs1]; exact hini.1
                omega
            have HBF : Hid (Below ws0.heap.size ws0 w10) := HB9.out.trans ((st1.below (by have := HSZ.out; omega) (fun j hj hh => hh (by unfold retag; rw [if_neg (by omega)]))).mono HGG.out)
            have HLOW : Hid (∀ b, b < ws0.heap.size → T1 b = 0) := fun b hb => hg1.low b (by rw [hG1]; exact Nat.lt_of_lt_of_le hb HGG.out)
            have HSRC : Hid (∀ v, v < N → isOut O v = false → s1.source[v]? = some ((srcI O reach N v : Nat) : Int)) := hsl
            have HN1 : Hid (s1.n = N) := hn1
            clear hfin hsG hini hg1 st1 hout hnet htc hbl hsrc hs1 hsl hnet1 har1 HST HC0 HB9 hn1 hG1 HSZ HGG hre
            rw [← hF1]
            clear hF1 hsn
            unfold ptr0
            go_wp2
            go_loopw [20] (fun c wr => ∃ v : Nat, v ≤ N ∧ c = .int .i64 v ∧ Hid (Play w10 T1 lk rows (OpC N O S reach s1 v) wr)) (fun c _ => N - (intOf c).toNat)
            case atStart => exact ⟨0, Nat.zero_le _, rfl, HPL⟩
            case round =>
              as_aux_lemma =>
                obtain ⟨v, hv, rfl, HP⟩ := hrel
                clear HPL
                have HBW : Hid (Below ws0.heap.size ws0 wr) := HBF.out.trans (HP.out.below HBF.out.size HLOW.out)
                by_cases hvl : v < N
                · have go : wr.cell? ⟨gS, v, none⟩ = some (.bool (S.getD v false)) := by
                    rw [(bcell HBW.out).1 gS v HRS0.out.lt, HRS0.out.cell]; simp [HSL.out, hvl]
                  cases hsv : S.getD v false with
                  | true =>
                    rw [hsv] at go
                    have hov := HSB.out v hvl hsv
                    have HOP : Hid (Calls Try.prog 20 #[.pointer (some ⟨s1.F, 0, none⟩), .int .i64 v] wr fun e w' => OpenedR w10 T1 lk rows (OpC N O S reach s1 (v + 1)) e w') := HP.out.openC HN1.out hvl hov hsv (HSRC.out v hvl hov)
                    clear hsv hov HP HBW
                    go_wp2_with fail
                    refine HOP.out.mono ?_
                    rintro e w12 ⟨rfl, hP⟩
                    have HP2 : Hid (Play w10 T1 lk rows (OpC N O S reach s1 (v + 1)) w12) := hP
                    clear hP HOP
                    go_wp2
                    go_roundw
                    case rel => exact ⟨v + 1, by omega, by go_num, HP2⟩
                    case measure => simp [intOf]; omega
                  | false =>
                    rw [hsv] at go
                    have HP2 : Hid (Play w10 T1 lk rows (OpC N O S reach s1 (v + 1)) wr) := HP.out.imp fun s h => ⟨h.pl, h.od.skip hsv, h.tc, h.qd, h.cs⟩
                    clear hsv HP HBW
                    go_wp2
                    go_roundw
                    case rel => exact ⟨v + 1, by omega, by go_num, HP2⟩
                    case measure => simp [intOf]; omega
                · have hve : v = N := by omega
                  obtain ⟨T2, s2, hg2, st2, hop⟩ := HP.out
                  rw [hve] at hop
                  obtain ⟨l0, hl0⟩ : ∃ l0, s2.arcs = l0 := ⟨_, rfl⟩
                  have HPA : Hid (Play w10 T1 lk rows (fun s' => OpC N O S reach s1 N s' ∧ s'.arcs = l0) wr) := ⟨T2, s2, hg2, st2, hop, hl0⟩
                  have hod2 : Opd N O S reach N l0 := by rw [← hl0]; exact hop.od
                  have HOD : Hid (Opd N O S reach N l0) := hod2
                  have HTO : Hid (∀ a, a < l0.length → ∃ y : Nat, toAt l0 a = (y : Int) ∧ y < 2 * N + 1) := fun a ha => by
                    have h := hop.pl.nw.tos a (by rw [hl0]; exact ha)
                    rw [hl0, hop.pl.n, HN1.out] at h
                    exact h
                  have HCS : Hid (Cst N l0 ∧ ∀ a, a % 2 = 0 → 0 ≤ costAt l0 a) := cst_opd hod2 (fun a => by rw [← hl0]; exact hop.cs a) HRR.out
                  have HCN : Hid (∀ a, costAt l0 a = costAt (netOf (2 * N + 1) (finPairs O reach N)).2 a) := fun a => by rw [← hl0]; exact hop.cs a
                  have HP0 : Hid (Pot N J bl l0 (fun _ => 0)) := pot_zero hod2.rz HCS.out.2
                  have HRM0 : Hid (Rm l0) := hod2.rz.rm
                  have hlen0 : l0.length = 2 * (finPairs O reach N).length := hod2.len
                  have hbd := HBD.out
                  have hpos : 0 < l0.length ∨ l0.length = 0 := by omega
                  have HBL : Hid (Calls Try.prog 22 #[.pointer (some ⟨s1.F, 0, none⟩), .slice ba bm bc] wr fun e w' => OpenedR w10 T1 lk rows (fun s => PlC s1 s 0 (.slice ba bm bc) ∧ s.arcs = l0 ∧ s.touched = []) e w') := HPA.out.blockC ba bm bc
                  clear hg2 st2 hod2 hop hl0 HP HPA HBW
                  go_wp2_with fail
                  refine HBL.out.mono ?_
                  rintro e wb ⟨rfl, hPB⟩
                  have HPB : Hid (Play w10 T1 lk rows (fun s => PlC s1 s 0 (.slice ba bm bc) ∧ s.arcs = l0 ∧ s.touched = []) wb) := hPB
                  have HBW : Hid (Below ws0.heap.size ws0 wb) := HBF.out.trans (hPB.below HBF.out.size HLOW.out)
                  obtain ⟨Tb, sb, hfb, hpb, hab, htb⟩ := hPB.fin3
                  have HAC : Hid (Calls Try.prog 27 #[.pointer (some ⟨s1.F, 0, none⟩)] wb fun e w' => ArcsR wb l0 e w') := by
                    have h := arcs_any hfb (by rw [hab]; omega)
                    rw [hab, hpb.pl.F] at h
                    exact h
                  clear hPB hfb hpb hab htb HBL
                  go_wp2_with fail
                  refine HAC.out.mono ?_
                  rintro e w14 ⟨a1, a2, a3, a4, rfl, r1, r2, _, r4, b1, b2, _, b4, hb14⟩
                  obtain ⟨T3, hreb, hnw3, htg3⟩ := HPB.out.rebase3
                  have HP3 : Hid (Play w14 T3 lk rows (fun s => PlC s1 s 0 (.slice ba bm bc) ∧ s.arcs = l0 ∧ s.touched = []) w14) := hreb w14 hb14
                  have HLA : Hid (Rw w14 a2 56 ((l0.map Arc.room).map (.int .i8))) := r2
                  have HTA : Hid (T3 a2 = 0) := hnw3 a2 b2
                  have HLH : Hid (Rw w14 a1 21 ((l0.map Arc.to).map (.int .i32))) := r1
                  have HTH : Hid (T3 a1 = 0) := hnw3 a1 b1
                  have HLC : Hid (Rw w14 a4 56 ((l0.map Arc.cost).map (.int .i8))) := r4
                  have HTC0 : Hid (T3 a4 = 0) := hnw3 a4 b4
                  have HLOW3 : Hid (∀ b, b < ws0.heap.size → T3 b = 0) := fun b hb => by rw [htg3 b (Nat.lt_of_lt_of_le hb HBF.out.size)]; exact HLOW.out b hb
                  have HB14 : Hid (Below ws0.heap.size ws0 w14) := HBW.out.trans (hb14.mono HBW.out.size)
                  have HBS3 : Hid (BlkS w14 T3 (.slice ba bm bc) N bl) := (HBV.out ws0 (Below.refl _ _)).below (Nat.le_refl _) HB14.out HLOW3.out
                  clear r1 b1 r2 b2 r4 b4 hb14 hreb hnw3 htg3 HAC HPB HBW HLOW HBF
                  obtain ⟨L, hL⟩ : ∃ L, l0.length = L := ⟨_, rfl⟩
                  have HLL : Hid (l0.length = L) := hL
                  have hLb : L ≤ 1000000 := by omega
                  have HK : Hid (L = 2 * (finPairs O reach N).length) := by show _ = _; rw [← hL]; exact hlen0
                  have HEV : Hid (l0.length % 2 = 0) := by show _ = _; omega
                  have HPE : Hid (∀ p ∈ linkPairs O reach N, p.a < 2 * N) := fun p hp => (link_ends HRR.out p hp).1
                  rw [hL]
                  clear hlen0 hpos hL
                  unfold at0
                  have HAU : Hid (Calls Try.prog 37 #[.pointer (some ⟨s1.F, 0, none⟩), .int .i64 J] w14 fun e w' => AugX w14 T3 lk rows s1 0 N J bl (.slice ba bm bc) l0 (fun _ => 0) [] e w') := HP3.out.augX HRM0.out HCS.out.1 HP0.out HBS3.out HN1.out hN2 hJ (by omega)
                  go_wp2_with fail
                  refine HAU.out.mono ?_
                  rintro e w15 ⟨ok, l', ts', rfl, hP15, hcase⟩
                  have HSP : Hid (SpR N J bl l0 (fun _ => 0) [] l' ts' ok) := hcase
                  have HCX : Hid ((ok = true ∧ RunX N J bl l0 l' ts' 1) ∨ (ok = false ∧ l' = l0 ∧ ts' = [])) := by
                    rcases hcase.run (RunX.zero (n := N) (sink := J) (bl := bl) HRM0.out) HEV.out HCS.out.1 HP0.out HTO.out with ⟨h1, h2, _⟩ | ⟨h1, h2, h3, _⟩
                    · exact .inl ⟨h1, h2⟩
                    · exact .inr ⟨h1, h2, h3⟩
                  have hll : l'.length = L := by
                    rcases HCX.out with ⟨_, h⟩ | ⟨_, h, _⟩
                    · rw [h.len]; exact HLL.out
                    · rw [h]; exact HLL.out
                  have HB15 : Hid (Below ws0.heap.size ws0 w15) := HB14.out.trans (hP15.below HB14.out.size HLOW3.out)
                  have HLA15 : Hid (Rw w15 a2 56 ((l0.map Arc.room).map (.int .i8))) := hP15.row HLA.out HTA.out
                  have HLH15 : Hid (Rw w15 a1 21 ((l0.map Arc.to).map (.int .i32))) := hP15.row HLH.out HTH.out
                  have HLC15 : Hid (Rw w15 a4 56 ((l0.map Arc.cost).map (.int .i8))) := hP15.row HLC.out HTC0.out
                  obtain ⟨Tq, sq, hfq, hpq, haq, htq⟩ := hP15.fin3
                  have HFQ0 : Hid (FinAt w15 Tq sq ∧ sq.F = s1.F ∧ sq.touched = ts') := ⟨hfq, hpq.pl.F, htq⟩
                  have htl : ts'.length ≤ 1000000 := by have := hpq.pl.tl; rw [htq] at this; omega
                  have HAC : Hid (Calls Try.prog 27 #[.pointer (some ⟨s1.F, 0, none⟩)] w15 fun e w' => ArcsR w15 l' e w') := by
                    have h := arcs_any hfq (by rw [haq]; omega)
                    rw [haq, hpq.pl.F] at h
                    exact h
                  have HHL : Hid (l'.length = L) := hll
                  clear hP15 hfq hpq haq htq HAU HLA HTA HLH HTH HLC HTC0 HLOW3 HB14 HP3 hcase HBS3
                  go_wp2_with fail
                  refine HAC.out.mono ?_
                  rintro e w16 ⟨h1, h2, h3, h4, rfl, _, p2, _, _, _, _, _, _, hb16⟩
                  have HX2 : Hid (Rw w16 h2 56 ((l'.map Arc.room).map (.int .i8))) := p2
                  have HX3 : Hid (Rw w16 a2 56 ((l0.map Arc.room).map (.int .i8))) := HLA15.out.below hb16 HLA15.out.lt
                  have HX1 : Hid (Rw w16 a1 21 ((l0.map Arc.to).map (.int .i32))) := HLH15.out.below hb16 HLH15.out.lt
                  have HX4 : Hid (Rw w16 a4 56 ((l0.map Arc.cost).map (.int .i8))) := HLC15.out.below hb16 HLC15.out.lt
                  have HFQ : Hid (FinAt w16 Tq sq ∧ sq.F = s1.F ∧ sq.touched = ts') := ⟨HFQ0.out.1.later hb16, HFQ0.out.2⟩
                  have HB16 : Hid (Below ws0.heap.size ws0 w16) := HB15.out.trans (hb16.mono HB15.out.size)
                  clear p2 hb16 HAC HLA15 HLH15 HLC15 HB15 HFQ0
                  rw [HHL.out]
                  unfold at0
                  have HMD : Hid (Calls Try.prog 31 #[.int .i64 N, .bool lk, .slice ya rows.length yc, .slice (some ⟨gO, 0, none⟩) N N, .slice (some ⟨gS, 0, none⟩) N N, .slice ba bm bc, .int .i64 J, .bool true] w16 fun e w' => ModR w16 (2 * N + 1) (mPairs O S reach N J bl true) e w') := by
                    have h := model_any w16 N J gO gS lk true (.slice ya rows.length yc) (.slice ba bm bc) rows O S bl (HRS'.out.later (below_all HBS.out HB16.out)) (HRO1.out.below HB16.out HRO1.out.lt) (HRS0.out.below HB16.out HRS0.out.lt) HOL.out HSL.out (HBV.out w16 HB16.out).blkV hN2 hN1 hJ HLK.out (by rw [HRE.out]; have := HBD.out; unfold finPairs at this; rw [List.length_append] at this; omega)
                    rw [HRE.out] at h
                    exact h
                  go_wp2_with fail
                  refine HMD.out.mono ?_
                  rintro e w21 ⟨Z, F, rfl, hzm⟩
                  have HB21 : Hid (Below w16.heap.size w16 w21) := ZN.below hzm (Nat.le_refl _) (fun _ _ => rfl)
                  obtain ⟨T5, z5, hz5, st5, hzs5⟩ := hzm
                  obtain ⟨mo1, mo2, mo3⟩ := model_okX (O := O) (S := S) (sink := J) (bl := bl) HRR.out
                  have hms : (mPairs O S reach N J bl true).length ≤ (linkPairs O reach N).length + N := by
                    have h1 := msrc_le S N J true N
                    have h2 := List.length_filter_le (okP N J bl) (linkPairs O reach N ++ msrc S N J true N)
                    rw [List.length_append] at h2
                    unfold mPairs
                    omega
                  have hlb : (linkPairs O reach N).length ≤ 400000 := by have := HBD.out; unfold finPairs at this; rw [List.length_append] at this; omega
                  obtain ⟨M, hedg, hdend⟩ := HSP.out.cheap HOD.out HCN.out HSB.out HCS.out.1 HCS.out.2 HP0.out hJ hN2 (fun a ha => by
                    obtain ⟨y, hy, _⟩ := mo1.to ha
                    exact ⟨_, y, mo1.tl a ha, hy⟩)
                  have HDE : Hid (∀ dd, Dend (2 * N + 1) (2 * N) (netOf (2 * N + 1) (mPairs O S reach N J bl true)).2 M dd → (ok = true ∧ lbA dd J ≠ 1073741824 ∧ 0 ≤ lbA dd J ∧ paidSum l0 l' (finPairs O reach N).length = lbA dd J) ∨ (ok = false ∧ lbA dd J = 1073741824)) := hdend
                  have HMX : Hid (Calls Try.prog 40 #[.pointer (some ⟨Z, 0, none⟩), .int .i64 (2 * (N : Int)), .int .i64 J] w21 fun e w' => ChR w21 w21.heap.size (2 * N + 1) (2 * N) J (netOf (2 * N + 1) (mPairs O S reach N J bl true)).2 M e w') := by
                    have h := cheapest_any (s := 2 * N) (t := J) ⟨z5, hz5, hzs5⟩ hz5.own.new mo1 mo2 hedg (by omega) (by omega) (by omega) (by omega)
                    rw [show ((2 * N : Nat) : Int) = 2 * (N : Int) by omega] at h
                    exact h
                  clear hz5 st5 hzs5 mo1 mo2 mo3 hms hlb HMD hdend hedg
                  go_wp2_with fail
                  refine HMX.out.mono ?_
                  rintro e w22 ⟨ds, rfl, hden, hkp⟩
                  have HB22 : Hid (Below w16.heap.size w16 w22) := HB21.out.trans (hkp.below HB21.out.size (fun b hb hh => by have h2 := HB21.out.size; omega))
                  have hres := HDE.out ds hden
                  clear hkp HMX HB21 hden HDE
                  rcases hres with ⟨hokt, hne, h0, hpaid⟩ | ⟨hokf, hinf⟩
                  · rw [if_neg hne]
                    obtain ⟨dd, hdd⟩ : ∃ dd : Nat, lbA ds J = (dd : Int) := Int.eq_ofNat_of_zero_le h0
                    have HPD : Hid (paidSum l0 l' (finPairs O reach N).length = dd) := by show _ = _; rw [hpaid, hdd]
                    rw [hdd]
                    have hdb : dd ≤ 1000000000 := by
                      rcases HCX.out with ⟨_, hr⟩ | ⟨hf, _⟩
                      · have hle : paidSum l0 l' (finPairs O reach N).length ≤ 1 * ((finPairs O reach N).length : Int) := by
                          refine sumTo_le (fun j _ => ?_)
                          have r0 := hr.rm.lo (2 * j + 1)
                          have r1 := hr.rm.hi (2 * j + 1)
                          have c1 := HCS.out.1.hi (2 * j)
                          have c0 := HCS.out.2 (2 * j) (by omega)
                          have hcs : roomAt l' (2 * j + 1) = 0 ∨ roomAt l' (2 * j + 1) = 1 := by omega
                          rcases hcs with e | e
                          · rw [e]; omega
                          · rw [e]; omega
                        have h2 := HPD.out
                        have h3 := HBD.out
                        omega
                      · rw [hokt] at hf; cases hf
                    have HR : Hid (RunX N J bl l0 l' ts' 1) := by
                      rcases HCX.out with ⟨_, hr⟩ | ⟨hf, _⟩
                      · exact hr
                      · rw [hokt] at hf; cases hf
                    subst hokt
                    have hd0 : ¬ ((dd : Int) < 0) := by omega
                    have HBW22 : Hid (Below ws0.heap.size ws0 w22) := HB16.out.trans (HB22.out.mono HB16.out.size)
                    clear hne h0 hpaid hdd HCX HSP
                    have HFV : Hid (Calls Try.prog 32 #[.slice (some ⟨a1, 0, none⟩) L L, .slice (some ⟨a2, 0, none⟩) L L, .slice (some ⟨h2, 0, none⟩) L L, .int .i64 N, .int .i64 J, .int .i64 1, .slice ba bm bc] w22 fun e w' => FvR w22 e w') := by
                      have h := flowValid_any w22 N J 1 a1 a2 h2 l0 l0 l' bl (.slice ba bm bc) hN2 hJ (by omega) (HBV.out w22 HBW22.out).blkV (HX1.out.below HB22.out HX1.out.lt) (HX3.out.below HB22.out HX3.out.lt) (HX2.out.below HB22.out HX2.out.lt) HR.out.len.symm (fun a => (HR.out.tos a).symm) (flow_okX HR.out HOD.out HBD.out hJ HTO.out)
                      unfold at0 at h
                      rw [HHL.out, HLL.out] at h
                      exact h
                    go_wp2_with fail
                    refine HFV.out.mono ?_
                    rintro e w23 ⟨rfl, hb23⟩
                    have HB23 : Hid (Below w16.heap.size w16 w23) := below_all HB22.out hb23
                    have HCV : Hid (Calls Try.prog 33 #[.pointer (some ⟨s1.F, 0, none⟩), .slice (some ⟨a2, 0, none⟩) L L, .slice (some ⟨h2, 0, none⟩) L L] w23 fun e w' => CovR w23 e w') := by
                      have h := covers_any (HFQ.out.1.later HB23.out) a2 h2 (l0.map Arc.room) (l'.map Arc.room) (HX3.out.below HB23.out HX3.out.lt) (HX2.out.below HB23.out HX2.out.lt) (by rw [List.length_map, List.length_map]; exact HR.out.len) (by rw [List.length_map, HLL.out]; omega) (by rw [HFQ.out.2.2]; exact htl) (by rw [HFQ.out.2.2, List.length_map]; exact HR.out.tin) (by rw [HFQ.out.2.2]; exact cover_okX HR.out)
                      unfold at0 at h
                      rw [List.length_map, List.length_map, HHL.out, HLL.out, HFQ.out.2.1] at h
                      exact h
                    clear hb23 HFV HB22 HBW22
                    go_wp2_with fail
                    refine HCV.out.mono ?_
                    rintro e w24 ⟨rfl, hb24⟩
                    have HB24 : Hid (Below w16.heap.size w16 w24) := below_all HB23.out hb24
                    have HY2 : Hid (Rw w24 h2 56 ((l'.map Arc.room).map (.int .i8))) := HX2.out.below HB24.out HX2.out.lt
                    have HY4 : Hid (Rw w24 a4 56 ((l0.map Arc.cost).map (.int .i8))) := HX4.out.below HB24.out HX4.out.lt
                    have HEND : Hid (∀ w', Below w24.heap.size w24 w' → NisR w5 (.returned (.bool true)) w') := fun w' hb => ⟨rfl, below_all HB8.out (below_all HBS.out (HB16.out.trans ((below_all HB24.out hb).mono HB16.out.size)))⟩
                    clear hb24 HCV HB23
                    go_wp2
                    obtain ⟨K, hK⟩ : ∃ K, (finPairs O reach N).length = K := ⟨_, rfl⟩
                    have hLK : L = 2 * K := by rw [HK.out, hK]
                    rw [hK] at HPD
                    clear hK
                    subst hLK
                    go_loopw [31, 32] (fun c v wr => ∃ (k : Nat) (u : Nat), k ≤ K ∧ u ≤ k ∧ v = .int .i64 ((2 * k : Nat) : Int) ∧ c = .int .i64 (u : Int) ∧ Hid (paidSum l0 l' k = u) ∧ Hid (Below w24.heap.size w24 wr)) (fun _ v _ => 2 * K - (intOf v).toNat)
                    case atStart => exact ⟨0, 0, Nat.zero_le _, Nat.le_refl _, rfl, rfl, rfl, Below.refl _ _⟩
                    case round =>
                      as_aux_lemma =>
                        obtain ⟨k, u, hk, huk, rfl, rfl, HSU, HWR⟩ := hrel
                        by_cases hlt : k < K
                        · obtain ⟨r, hr⟩ : ∃ r, roomAt l' (2 * k + 1) = r := ⟨_, rfl⟩
                          obtain ⟨ca, hca⟩ : ∃ r, costAt l0 (2 * k) = r := ⟨_, rfl⟩
                          have hr0 : 0 ≤ r := by rw [← hr]; exact HR.out.rm.lo _
                          have hr1 : r ≤ 1 := by rw [← hr]; exact HR.out.rm.hi _
                          have hc0 : 0 ≤ ca := by rw [← hca]; exact HCS.out.2 (2 * k) (by omega)
                          have hc1 : ca ≤ 1 := by rw [← hca]; exact HCS.out.1.hi _
                          have hlk : 2 * k + 1 < l'.length := by rw [HHL.out]; omega
                          have hlk0 : 2 * k < l0.length := by rw [HLL.out]; omega
                          have cr : wr.cell? ⟨h2, 2 * k + 1, none⟩ = some (.int .i8 r) := by
                            rw [(HY2.out.below HWR.out HY2.out.lt).cell, List.getElem?_map, List.getElem?_map, List.getElem?_eq_getElem hlk, ← hr, roomAt_get hlk]; rfl
                          have cc : wr.cell? ⟨a4, 2 * k, none⟩ = some (.int .i8 ca) := by
                            rw [(HY4.out.below HWR.out HY4.out.lt).cell, List.getElem?_map, List.getElem?_map, List.getElem?_eq_getElem hlk0, ← hca, costAt_get hlk0]; rfl
                          obtain ⟨pr, hpr, hpr1⟩ : ∃ pr : Nat, r * ca = (pr : Int) ∧ pr ≤ 1 := by
                            have hcs : r = 0 ∨ r = 1 := by omega
                            rcases hcs with e | e
                            · exact ⟨0, by rw [e]; simp, by omega⟩
                            · exact ⟨ca.toNat, by rw [e]; omega, by omega⟩
                          have HSU' : Hid (paidSum l0 l' (k + 1) = (u : Int) + pr) := by
                            show sumTo (fun k => roomAt l' (2 * k + 1) * costAt l0 (2 * k)) k + roomAt l' (2 * k + 1) * costAt l0 (2 * k) = _
                            rw [hr, hca, hpr]
                            have := HSU.out
                            unfold paidSum at this
                            omega
                          have hwm : IntKind.i64.wrap (r * ca) = (pr : Int) := by rw [hpr, IntKind.wrap_i64]; omega
                          have hwr : IntKind.i64.wrap r = r := by rw [IntKind.wrap_i64]; omega
                          have hwc : IntKind.i64.wrap ca = ca := by rw [IntKind.wrap_i64]; omega
                          have HWQ : Hid (∀ q, Below w24.heap.size w24 (wr.drewN q)) := fun q => below_draws HWR.out q
                          clear hr hca HSU hpr HWR
                          go_upto_region 38 with fail
                          go_quiet (fail)
                          go_wp2
                          go_roundw
                          case rel => exact ⟨k + 1, u + pr, by omega, by omega, by go_num, by go_num, by have h := HSU'.out; show _ = _; rw [h]; omega, HWQ.out _⟩
                          case measure => simp [intOf]; omega
                        · have hke : k = K := by omega
                          subst hke
                          have hud : u = dd := by have h1 := HSU.out; have h2 := HPD.out; rw [h1] at h2; omega
                          subst hud
                          clear HSU HPD
                          go_wp2
                          go_ret
                          exact HEND.out _ HWR.out
                  · rw [if_pos hinf]
                    have HE : Hid (ok = false ∧ l' = l0 ∧ ts' = []) := by
                      rcases HCX.out with ⟨ht, _⟩ | h
                      · rw [hokf] at ht; cases ht
                      · exact h
                    obtain ⟨rfl, rfl, rfl⟩ := HE.out
                    have HSM : Hid (Calls Try.prog 29 #[.slice (some ⟨a2, 0, none⟩) L L, .slice (some ⟨h2, 0, none⟩) L L] w22 fun e w' => RoomsR w22 true e w') := by
                      have h := sameRooms_any w22 a2 h2 (l'.map Arc.room) (l'.map Arc.room) (HX3.out.below HB22.out HX3.out.lt) (HX2.out.below HB22.out HX2.out.lt) rfl (by rw [List.length_map, HHL.out]; omega)
                      rw [List.length_map, HHL.out, decide_eq_true rfl] at h
                      exact h
                    clear hokf hinf HCX HSP HE
                    go_wp2_with fail
                    refine HSM.out.mono ?_
                    rintro e w23 ⟨rfl, hb23⟩
                    have HB23 : Hid (Below w16.heap.size w16 w23) := below_all HB22.out hb23
                    have HTC2 : Hid (Calls Try.prog 28 #[.pointer (some ⟨s1.F, 0, none⟩)] w23 fun e w' => e = .returned (.int .i64 0) ∧ w' = w23) := by
                      have h := touchedLen_any (HFQ.out.1.later HB23.out)
                      rw [HFQ.out.2.2, HFQ.out.2.1] at h
                      exact h
                    have HEND : Hid (NisR w5 (.returned (.bool true)) w23) := ⟨rfl, below_all HB8.out (below_all HBS.out (HB16.out.trans (HB23.out.mono HB16.out.size)))⟩
                    clear hb23 HSM
                    go_wp2_with fail
                    refine HTC2.out.mono ?_
                    rintro e w24 ⟨rfl, rfl⟩
                    go_wp2
                    go_ret
                    exact HEND.out
end Go.Proofs.Qxb6605292a
