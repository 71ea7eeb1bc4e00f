/-
  The law FnFinderLaysExactNetwork (f3), walked.
-/
import Derived.Test.Qxb6605292aNis
import Derived.Test.Qxb6605292aBnd
namespace Go.Proofs.Qxb6605292a
open Go.RowKit

set_option maxRecDepth 100000 in
set_option maxHeartbeats 2000000 in
theorem law1_any (n i : Int) (lk : Bool) (vl vw : Value) (rows : List (List Int)) (ws : List Int) (w : World) (hvl : RSl w vl rows) (hvw : KSl .i64 w vw ws) :
    Calls Try.prog 3 #[.int .i64 n, .bool lk, vl, vw, .int .i64 i] w fun e w' => NisR w e w' := by
  have HVL : Hid (RSl w vl rows) := hvl
  have HVW : Hid (KSl .i64 w vw ws) := hvw
  have HQ : Hid (NisR w (.returned (.bool true)) w) := ⟨rfl, Below.refl _ _⟩
  obtain ⟨ra, rc, rfl, hrm, _⟩ := hvl
  obtain ⟨wa, wc, rfl, hwm, _⟩ := hvw
  go_enter Try.func3, Try.ntmps3
  go_wp2_with fail
  refine (bytes1_any n i lk _ _ rows ws w HVL.out HVW.out).mono ?_
  rintro e w1 ⟨⟨r, rfl⟩, rfl⟩
  cases r with
  | false =>
    go_wp2
    go_ret
    exact HQ.out
  | true =>
    go_wp2_with fail
    refine (small_any _ wa none none none ws.length 0 0 0 wc 0 0 0 rows _ HVL.out hwm (Nat.zero_le _) (Nat.zero_le _) (Nat.zero_le _)).mono ?_
    rintro e w2 ⟨⟨r, rfl, hr⟩, rfl⟩
    cases r with
    | false =>
      go_wp2
      go_ret
      exact HQ.out
    | true =>
      have hsm := hr rfl
      clear hr
      by_cases g1 : n < 1
      · go_wp2
        go_ret
        exact HQ.out
      · by_cases g2 : 256 < n
        · go_wp2
          go_ret
          exact HQ.out
        · by_cases g3 : i < 0
          · go_wp2
            go_ret
            exact HQ.out
          · by_cases g4 : n ≤ i
            · go_wp2
              go_ret
              exact HQ.out
            · obtain ⟨N, rfl⟩ : ∃ N : Nat, n = (N : Int) := Int.eq_ofNat_of_zero_le (by omega)
              obtain ⟨I, rfl⟩ : ∃ I : Nat, i = (I : Int) := Int.eq_ofNat_of_zero_le (by omega)
              go_wp2_with fail
              refine (inRange_any _ ws N _ HVW.out).mono ?_
              rintro e w3 ⟨rfl, rfl⟩
              cases hin : inR N ws with
              | false =>
                go_wp2
                go_ret
                exact HQ.out
              | true =>
                have HIN : Hid (inR N ws = true) := hin
                clear hin
                go_wp2_with fail
                refine (linksInRange_any N lk _ rows _ HVL.out).mono ?_
                rintro e w4 ⟨rfl, rfl⟩
                cases hlk : linksOk N lk rows with
                | false =>
                  go_wp2
                  go_ret
                  exact HQ.out
                | true =>
                  have HLK : Hid (linksOk N lk rows = true) := hlk
                  have HSS : Hid (∀ r ∈ rows, r.length ≤ 131072) := fun r hr => by have := row_le_sum hr; omega
                  clear hlk
                  go_wp2_with fail
                  refine (cloneLinks_any _ rows _ HVL.out (by omega) (fun r hr => by have := HSS.out r hr; omega)).mono ?_
                  rintro e w5 ⟨vl2, rfl, hc5, hb5⟩
                  have HB5 : Hid (Below w4.heap.size w4 w5) := hb5
                  have HC5 : Hid (CRows w4.heap.size w5 vl2 rows) := hc5
                  have HVW5 : Hid (KSl .i64 w5 (.slice wa ws.length wc) ws) := HVW.out.later hb5
                  clear hb5 hc5 HVL HVW HQ
                  go_wp2_with fail
                  refine (cloneInts_any _ ws _ HVW5.out (by omega)).mono ?_
                  rintro e w6 ⟨vw2, rfl, hc6, hb6⟩
                  have HB6 : Hid (Below w4.heap.size w4 w6) := below_all HB5.out hb6
                  have HRS : Hid (RSl w6 vl2 rows) := (HC5.out.later hb6).rsl (by unfold maxLen; omega) (fun r hr => by have := HSS.out r hr; unfold maxLen; omega)
                  have HKS : Hid (KSl .i64 w6 vw2 ws) := hc6.ksl hwm
                  have hform : ∃ ao cap, vw2 = .slice ao ws.length cap ∧ ∀ b off, ao = some ⟨b, off, none⟩ → b < w6.heap.size := by
                    rcases hc6 with ⟨rfl, rfl⟩ | ⟨g, _, rfl, hr⟩
                    · exact ⟨none, 0, rfl, fun b off h => by cases h⟩
                    · exact ⟨some ⟨g, 0, none⟩, ws.length, rfl, fun b off h => by cases h; exact hr.lt⟩
                  obtain ⟨xa, xc, rfl, hlow⟩ := hform
                  have HLW : Hid (∀ b off, xa = some ⟨b, off, none⟩ → b < w6.heap.size) := hlow
                  clear hb6 hc6 hlow HB5 HC5 HVW5
                  obtain ⟨ya, yc, rfl, hym, _⟩ := HRS.out
                  have HRS' : Hid (RSl w6 (.slice ya rows.length yc) rows) := HRS
                  clear HRS
                  go_wp2_with fail
                  refine (group_any N lk _ rows _ HRS'.out (by omega) (fun r hr => by have := HSS.out r hr; omega)).mono ?_
                  rintro e w7 ⟨G, nb, rfl, hr7, hG, hnb, hb7, hsz⟩
                  have hst := start_new hr7 hnb hsz
                  have HST : Hid (Start w7 (retag (fun _ => 0) G 14) G N lk rows none) := hst
                  have HC0 : Hid (w7.cell? ⟨G, 0, none⟩ = some (.int .i64 N)) := hr7.at rfl
                  have HB7 : Hid (Below w6.heap.size w6 w7) := hb7
                  have HGG : Hid (w6.heap.size ≤ G) := hG
                  have HSZ : Hid (w7.heap.size = G + 1) := hsz
                  have HBD : Hid ((finPairs (outL N ws I) (reachL N lk rows) N).length ≤ 400000) := pairs_bound N lk rows _ (by omega) (by omega)
                  clear hst hr7 hG hnb hb7 hsz
                  unfold ptr0
                  go_wp2_with fail
                  have hfin := finder_any HST.out xa xc ws I (by omega) (by omega) HC0.out (fun r hr => by have := HSS.out r hr; omega) (by omega) (HKS.out.later HB7.out) (fun b off h => by
                    have h1 := HLW.out b off h
                    have h2 := HGG.out
                    unfold retag
                    rw [if_neg (by omega)]) HIN.out HLK.out HBD.out
                  refine (zzfinder_any (R := fun e w' => FinderR w7 (retag (fun _ => 0) G 14) G N lk rows none ws I e w') (hfin.mono fun e w' h => ⟨?_, h⟩)).mono ?_
                  · obtain ⟨s, m, h1, _⟩ := h
                    exact ⟨s.F, h1⟩
                  rintro e w8 ⟨s, m, rfl, _, hsn, _, hfs, hout, hnet, htc, hbl, hsrc⟩
                  have hb8 : Below G w7 w8 := by
                    obtain ⟨T', _, st⟩ := hfs
                    refine st.below (by have := HSZ.out; omega) (fun j hj hh => hh ?_)
                    unfold retag
                    rw [if_neg (by omega)]
                  have hb68 : Below w6.heap.size w6 w8 := HB7.out.trans (hb8.mono HGG.out)
                  have HB8 : Hid (Below w4.heap.size w4 w8) := below_all HB6.out hb68
                  have HR8 : Hid (RSl w8 (.slice ya rows.length yc) rows) := HRS'.out.later hb68
                  have HK8 : Hid (KSl .i64 w8 (.slice xa ws.length xc) ws) := HKS.out.later hb68
                  obtain ⟨T', hF⟩ := hfs.fin
                  subst hsn
                  have HN : Hid (Calls Try.prog 17 #[.pointer (some ⟨s.F, 0, none⟩), .int .i64 s.n, .bool lk, .slice ya rows.length yc, .slice xa ws.length xc, .int .i64 I] w8 fun e w' => NisR w8 e w') :=
                    networkIs_any (s := s.put m) hF HR8.out HK8.out (by show s.n ≤ 256; omega) (by show 1 ≤ s.n; omega) (by show I < s.n; omega) HIN.out HLK.out hout hnet htc hbl hsrc HBD.out
                  clear hfin hb8 hb68 hF hfs hout hnet htc hbl hsrc HST HC0 HB7 HGG HSZ HBD HLW HRS' HKS HIN HLK HSS HR8 HK8 HB6
                  unfold ptr0
                  go_wp2_with fail
                  refine HN.out.mono ?_
                  rintro e w9 ⟨rfl, hb9⟩
                  have HE : Hid (NisR w4 (.returned (.bool true)) w9) := ⟨rfl, below_all HB8.out hb9⟩
                  clear hb9 HN HB8
                  go_wp2
                  go_ret
                  exact HE.out
end Go.Proofs.Qxb6605292a
