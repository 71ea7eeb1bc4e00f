/-
  The law FnFinderRelaidIsFresh (f4), walked.
-/
import Derived.Test.Qxb6605292aNis
import Derived.Test.Qxb6605292aSame
import Derived.Test.Qxb6605292aBytes
import Derived.Test.Qxb6605292aPlay2
import Derived.LaidEqlPtr
import Derived.Deep.CutBlock
import Derived.Deep.DeepCutAuto
namespace Go.Proofs.Qxb6605292a
open Go.RowKit

theorem neq_ptr_same {P : Program} (w : World) {tp te : TypeId} {j : TypeInfo} (a : Addr) (hp : P.underlying tp = some (.pointer te)) (hte : P.info? te = some j) :
    (binOp .neq tp (.pointer (some a)) (.pointer (some a))).run P w = .ok (.bool false) w := by
  have h : ∀ d : Nat, (Op.equalIn (d + 1) tp (.pointer (some a)) (.pointer (some a))).run P w = .ok true w := fun d => by
    simp [Op.equalIn, run_underlying hp, sizeOf, typeInfo, hte, run_sameAddr_same]
  simp only [binOp]
  simp [Op.equal, Op.maxDepth, h 9999]
theorem neq_fin (w : World) (F : Nat) : (binOp .neq 30 (.pointer (some ⟨F, 0, none⟩)) (.pointer (some ⟨F, 0, none⟩))).run Try.prog w = .ok (.bool false) w := by
  obtain ⟨j, hj⟩ : ∃ j, Try.prog.info? 73 = some j := Option.isSome_iff_exists.1 (by kernel_rfl)
  exact neq_ptr_same w _ Try.underlying30 hj
/-- The sink that the law takes: none, or the way in of the first general left. -/
def SinkOk (N : Nat) (O : List Bool) (z : Int) : Prop := z = -1 ∨ ∃ k : Nat, k < N ∧ z = 2 * (k : Int) ∧ isOut O k = false
/-- A finder freshly laid may be played. -/
theorem play_new {w : World} {T : Nat → Nat} {lk : Bool} {rows : List (List Int)} {s : FV} {O : List Bool} {reach : Nat → List Int} (hg : Gs w T s lk rows) (hnet : (s.nodes, s.arcs) = netOf (2 * s.n + 1) (finPairs O reach s.n))
    (hr : ∀ v, v < s.n → ∀ z ∈ reach v, 0 ≤ z ∧ z < s.n) (hb : (finPairs O reach s.n).length ≤ 400000) (hsrc : ∀ v, v < s.n → isOut O v = false → s.source[v]? = some ((2 * ((linkPairs O reach s.n).length + (srcPairs O s.n v).length) : Nat) : Int))
    (ht : s.touched = []) (hw : s.walk = 0) (hse : ∀ x : Nat, ∀ y, s.seen[x]? = some y → y ≤ 0) : Play w T lk rows (fun s' => Pl s s' 0 ∧ Rz s'.arcs) w := by
  have e1 : s.nodes = (netOf (2 * s.n + 1) (finPairs O reach s.n)).1 := by rw [← hnet]
  have e2 : s.arcs = (netOf (2 * s.n + 1) (finPairs O reach s.n)).2 := by rw [← hnet]
  refine ⟨T, s, hg, Step.refl _ _ _, ⟨rfl, rfl, rfl, rfl, rfl, rfl, rfl, ?_, by omega, by omega, ?_, by rw [ht]; exact Nat.zero_le _⟩, ?_⟩
  · rw [e1, e2]; exact nw_of_net s.n O reach s.source hr hb hsrc
  · rw [hw]; exact hse
  · rw [e2]; exact rz_net _ _ (fulls_ok _ _ _)
theorem src_lt (O : List Bool) (reach : Nat → List Int) (n : Nat) {v : Nat} (hv : v < n) (ho : isOut O v = false) : 2 * ((linkPairs O reach n).length + (srcPairs O n v).length) < 2 * (finPairs O reach n).length := by
  have h := finPairs_src O reach n hv ho
  have := (List.getElem?_eq_some_iff.1 h).1
  omega

set_option maxRecDepth 100000 in
set_option maxHeartbeats 8000000 in
theorem law2_any (n i i2 : Int) (lk : Bool) (vl vw vx : Value) (rows : List (List Int)) (ws xs : List Int) (w : World) (hvl : RSl w vl rows) (hvw : KSl .i64 w vw ws) (hvx : KSl .i64 w vx xs) :
    Calls Try.prog 4 #[.int .i64 n, .bool lk, vl, vw, .int .i64 i, vx, .int .i64 i2] w fun e w' => NisR w e w' := by
  have HVL : Hid (RSl w vl rows) := hvl
  have HVW : Hid (KSl .i64 w vw ws) := hvw
  have HVX : Hid (KSl .i64 w vx xs) := hvx
  have HQ : Hid (NisR w (.returned (.bool true)) w) := ⟨rfl, Below.refl _ _⟩
  obtain ⟨ra, rc, rfl, hrm, _⟩ := hvl
  obtain ⟨wa, wc, rfl, hwm, _⟩ := hvw
  obtain ⟨xa, xc, rfl, hxm, _⟩ := hvx
  go_enter Try.func4, Try.ntmps4
  go_wp2_with fail
  refine (bytes2_any n i i2 lk _ _ _ rows ws xs w HVL.out HVW.out HVX.out).mono ?_
  rintro e w1 ⟨⟨r, rfl⟩, rfl⟩
  cases r with
  | false =>
    go_wp2
    go_ret
    exact HQ.out
  | true =>
    go_wp2_with fail
    refine (small_any _ wa xa none none ws.length xs.length 0 0 wc xc 0 0 rows _ HVL.out hwm hxm (Nat.zero_le _) (Nat.zero_le _)).mono ?_
    rintro e w2 ⟨⟨r, rfl, hr⟩, rfl⟩
    cases r with
    | false =>
      go_wp2
      go_ret
      exact HQ.out
    | true =>
      have hsm := hr rfl
      clear hr
      by_cases hgd : n < 1 ∨ 256 < n ∨ i < 0 ∨ n ≤ i ∨ i2 < 0 ∨ n ≤ i2
      · by_cases g1 : n < 1
        · go_wp2; go_ret; exact HQ.out
        · by_cases g2 : 256 < n
          · go_wp2; go_ret; exact HQ.out
          · by_cases g3 : i < 0
            · go_wp2; go_ret; exact HQ.out
            · by_cases g4 : n ≤ i
              · go_wp2; go_ret; exact HQ.out
              · by_cases g5 : i2 < 0
                · go_wp2; go_ret; exact HQ.out
                · have g6 : n ≤ i2 := by omega
                  clear hgd
                  go_wp2; go_ret; exact HQ.out
      · obtain ⟨N, rfl⟩ : ∃ N : Nat, n = (N : Int) := Int.eq_ofNat_of_zero_le (by omega)
        obtain ⟨I, rfl⟩ : ∃ I : Nat, i = (I : Int) := Int.eq_ofNat_of_zero_le (by omega)
        obtain ⟨J, rfl⟩ : ∃ J : Nat, i2 = (J : Int) := Int.eq_ofNat_of_zero_le (by omega)
        have hN1 : 1 ≤ N := by omega
        have hN2 : N ≤ 256 := by omega
        have hI : I < N := by omega
        have hJ : J < N := by omega
        clear hgd
        go_wp2_with fail
        refine (inRange_any _ ws N _ HVW.out).mono ?_
        rintro e w3 ⟨rfl, rfl⟩
        cases hin : inR N ws with
        | false =>
          clear hin
          go_wp2
          go_ret
          exact HQ.out
        | true =>
          have HIN : Hid (inR N ws = true) := hin
          clear hin
          go_wp2_with fail
          refine (inRange_any _ xs N _ HVX.out).mono ?_
          rintro e w4 ⟨rfl, rfl⟩
          cases hin : inR N xs with
          | false =>
            clear hin
            go_wp2
            go_ret
            exact HQ.out
          | true =>
            have HIX : Hid (inR N xs = true) := hin
            clear hin
            go_wp2_with fail
            refine (linksInRange_any N lk _ rows _ HVL.out).mono ?_
            rintro e w5 ⟨rfl, rfl⟩
            cases hlk : linksOk N lk rows with
            | false =>
              clear hlk
              go_wp2
              go_ret
              exact HQ.out
            | true =>
              have HLK : Hid (linksOk N lk rows = true) := hlk
              have HSS : Hid (∀ r ∈ rows, r.length ≤ 131072) := fun r hr => by have := row_le_sum hr; omega
              clear hlk
              go_wp2_with fail
              refine (cloneLinks_any _ rows _ HVL.out (by omega) (fun r hr => by have := HSS.out r hr; omega)).mono ?_
              rintro e w6 ⟨vl2, rfl, hc6, hb6⟩
              have HB6 : Hid (Below w5.heap.size w5 w6) := hb6
              have HC6 : Hid (CRows w5.heap.size w6 vl2 rows) := hc6
              have HVW6 : Hid (KSl .i64 w6 (.slice wa ws.length wc) ws) := HVW.out.later hb6
              have HVX6 : Hid (KSl .i64 w6 (.slice xa xs.length xc) xs) := HVX.out.later hb6
              clear hb6 hc6 HVL HVW HVX HQ
              go_wp2_with fail
              refine (cloneInts_any _ ws _ HVW6.out (by omega)).mono ?_
              rintro e w7 ⟨vw2, rfl, hc7, hb7⟩
              have HB7 : Hid (Below w5.heap.size w5 w7) := below_all HB6.out hb7
              have HC7 : Hid (CRows w5.heap.size w7 vl2 rows) := HC6.out.later hb7
              have HW7 : Hid (CSl .i64 3 w6.heap.size w7 vw2 ws) := hc7
              have HVX7 : Hid (KSl .i64 w7 (.slice xa xs.length xc) xs) := HVX6.out.later hb7
              have hf7 : ∃ ao cap, vw2 = .slice ao ws.length cap ∧ ∀ b off, ao = some ⟨b, off, none⟩ → b < w7.heap.size := by
                rcases hc7 with ⟨rfl, rfl⟩ | ⟨g, _, rfl, hr⟩
                · exact ⟨none, 0, rfl, fun b off h => by cases h⟩
                · exact ⟨some ⟨g, 0, none⟩, ws.length, rfl, fun b off h => by cases h; exact hr.lt⟩
              obtain ⟨wa2, wc2, rfl, hlw7⟩ := hf7
              have HLW7 : Hid (∀ b off, wa2 = some ⟨b, off, none⟩ → b < w7.heap.size) := hlw7
              clear hb7 hc7 hlw7 HB6 HC6 HVW6 HVX6
              go_wp2_with fail
              refine (cloneInts_any _ xs _ HVX7.out (by omega)).mono ?_
              rintro e w8 ⟨vx2, rfl, hc8, hb8⟩
              have HB8 : Hid (Below w5.heap.size w5 w8) := below_all HB7.out hb8
              have HRS : Hid (RSl w8 vl2 rows) := (HC7.out.later hb8).rsl (by unfold maxLen; omega) (fun r hr => by have := HSS.out r hr; unfold maxLen; omega)
              have HKW : Hid (KSl .i64 w8 (.slice wa2 ws.length wc2) ws) := (HW7.out.later hb8).ksl hwm
              have HKX0 : Hid (KSl .i64 w8 vx2 xs) := hc8.ksl hxm
              have hf8 : ∃ ao cap, vx2 = .slice ao xs.length cap ∧ ∀ b off, ao = some ⟨b, off, none⟩ → b < w8.heap.size := by
                rcases hc8 with ⟨rfl, rfl⟩ | ⟨g, _, rfl, hr⟩
                · exact ⟨none, 0, rfl, fun b off h => by cases h⟩
                · exact ⟨some ⟨g, 0, none⟩, xs.length, rfl, fun b off h => by cases h; exact hr.lt⟩
              obtain ⟨xa2, xc2, rfl, hlw8⟩ := hf8
              have HKX : Hid (KSl .i64 w8 (.slice xa2 xs.length xc2) xs) := HKX0
              have HLX : Hid (∀ b off, xa2 = some ⟨b, off, none⟩ → b < w8.heap.size) := hlw8
              have HLW : Hid (∀ b off, wa2 = some ⟨b, off, none⟩ → b < w8.heap.size) := fun b off h => Nat.lt_of_lt_of_le (HLW7.out b off h) hb8.size
              clear hb8 hc8 hlw8 HB7 HC7 HW7 HVX7 HLW7 HKX0
              obtain ⟨ya, yc, rfl, hym, _⟩ := HRS.out
              have HRS' : Hid (RSl w8 (.slice ya rows.length yc) rows) := HRS
              clear HRS
              go_wp2_with fail
              refine (group_any N lk _ rows _ HRS'.out (by omega) (fun r hr => by have := HSS.out r hr; omega)).mono ?_
              rintro e w9 ⟨G, nb, rfl, hr9, hG, hnb, hb9, hsz⟩
              have HST : Hid (Start w9 (retag (fun _ => 0) G 14) G N lk rows none) := start_new hr9 hnb hsz
              have HC0 : Hid (w9.cell? ⟨G, 0, none⟩ = some (.int .i64 N)) := hr9.at rfl
              have HB9 : Hid (Below w8.heap.size w8 w9) := hb9
              have HGG : Hid (w8.heap.size ≤ G) := hG
              have HSZ : Hid (w9.heap.size = G + 1) := hsz
              have HBD : Hid (∀ O, (finPairs O (reachL N lk rows) N).length ≤ 400000) := fun O => pairs_bound N lk rows O (by omega) (by omega)
              have HRR : Hid (∀ v, v < N → ∀ z ∈ reachL N lk rows v, 0 ≤ z ∧ z < N) := fun v hv z hz => by
                obtain ⟨j, hj, rfl⟩ := List.getElem_of_mem hz
                exact reach_get HLK.out hv hj
              clear hr9 hG hnb hb9 hsz
              unfold ptr0
              go_wp2_with fail
              have hfin := finder_any HST.out wa2 wc2 ws I (by omega) (by omega) HC0.out (fun r hr => by have := HSS.out r hr; omega) (by omega) (HKW.out.later HB9.out) (fun b off h => by
                have h1 := HLW.out b off h
                have h2 := HGG.out
                unfold retag
                rw [if_neg (by omega)]) HIN.out HLK.out (HBD.out _)
              refine (zzfinder_any (R := fun e w' => FinderR w9 (retag (fun _ => 0) G 14) G N lk rows none ws I e w') (hfin.mono fun e w' h => ⟨?_, h⟩)).mono ?_
              · obtain ⟨s, m, h1, _⟩ := h
                exact ⟨s.F, h1⟩
              rintro e w10 ⟨s, m, rfl, hsG, hsn, hini, hfs, hout, hnet, htc, hbl, hsrc⟩
              obtain ⟨T1, hg1, st1⟩ := hfs
              obtain ⟨s1, hs1⟩ : ∃ s1, s.put m = s1 := ⟨_, rfl⟩
              have hF1 : s1.F = s.F := by rw [← hs1]; rfl
              have hn1 : s1.n = N := by rw [← hs1]; exact hsn
              have hG1 : s1.G = G := by rw [← hs1]; exact hsG
              obtain ⟨O, hO⟩ : ∃ O, outL N ws I = O := ⟨_, rfl⟩
              rw [hO] at hnet hsrc hout
              have hol : O.length = N := by rw [← hO, outL_len]
              rw [hs1] at hg1
              have hsl : ∀ v, v < N → isOut O v = false → s1.source[v]? = some ((2 * ((linkPairs O (reachL N lk rows) N).length + (srcPairs O N v).length) : Nat) : Int) := fun v hv ho => by rw [← hs1]; exact hsrc v hv ho
              have hnet1 : (s1.nodes, s1.arcs) = netOf (2 * N + 1) (finPairs O (reachL N lk rows) N) := by rw [← hs1]; exact hnet
              have HPL0 : Hid (∀ w', Below w10.heap.size w10 w' → Play w' T1 lk rows (fun s' => Pl s1 s' 0 ∧ Rz s'.arcs) w') := by
                intro w' hb
                refine play_new (O := O) (reach := reachL N lk rows) (hg1.step (Step.later (Step.refl finT w10 T1) hb) finT0 (hg1.fin.later hb) rfl rfl rfl) (by rw [hn1]; exact hnet1) (by rw [hn1]; exact HRR.out) (by rw [hn1]; exact HBD.out _) (by rw [hn1]; exact hsl) (by rw [← hs1]; exact htc) (by rw [← hs1]; exact hini.1) ?_
                intro x y hx
                have hx' : s.seen[x]? = some y := by rw [← hs1] at hx; exact hx
                rw [hini.2.1] at hx'
                have := List.mem_of_getElem? hx'
                have := List.eq_of_mem_replicate this
                omega
              have hlen1 : s1.arcs.length = 2 * (finPairs O (reachL N lk rows) N).length := by
                have h := netOf_arcs (2 * N + 1) (finPairs O (reachL N lk rows) N)
                rw [← hnet1] at h; exact h
              have HSRC : Hid (∀ v, v < N → isOut O v = false → ∃ a : Nat, s1.source[v]? = some (a : Int) ∧ a < s1.arcs.length ∧ a % 2 = 0) := fun v hv ho => by
                refine ⟨_, hsl v hv ho, ?_, by omega⟩
                rw [hlen1]; exact src_lt O _ N hv ho
              have HLOW : Hid (∀ b, b < G → T1 b = 0) := fun b hb => hg1.low b (by rw [hG1]; exact hb)
              have HNEW : Hid (∀ b, w10.heap.size ≤ b → T1 b = 0) := hg1.fin.own.new
              have HGL : Hid (G ≤ w10.heap.size) := by have h := hg1.lt; rw [hG1] at h; exact Nat.le_of_lt h
              have HBG : Hid (Below w8.heap.size w8 w10) := HB9.out.trans ((st1.below (by have := HSZ.out; omega) (fun j hj hh => hh (by unfold retag; rw [if_neg (by omega)]))).mono HGG.out)
              have HOU : Hid (outL N ws I = O) := hO
              have HN1 : Hid (s1.n = N) := hn1
              have HG1 : Hid (s1.G = G) := hG1
              clear hfin hsG hini hg1 st1 hout hnet htc hbl hsrc hs1 hO hsl hnet1 hlen1 HST HC0 HB9 hn1 hG1
              rw [← hF1]
              clear hF1 hsn
              unfold ptr0
              go_wp2_with fail
              refine (outSet_any N I _ ws _ (HKW.out.later HBG.out) HIN.out hI hN2).mono ?_
              rw [HOU.out]
              rintro e w11 ⟨gO, rfl, hro, hgo, hb11⟩
              rw [hol]
              have HPL : Hid (Play w11 T1 lk rows (fun s' => Pl s1 s' 0 ∧ Rz s'.arcs) w11) := HPL0.out w11 hb11
              have HRO : Hid (Rw w11 gO 4 (O.map .bool)) := hro
              have HOL : Hid (O.length = N) := hol
              have HTO : Hid (T1 gO = 0) := HNEW.out gO hgo
              have HGL1 : Hid (G ≤ w11.heap.size) := Nat.le_trans HGL.out hb11.size
              have HB1 : Hid (Below w8.heap.size w8 w11) := HBG.out.trans (hb11.mono (Nat.le_trans HGG.out HGL.out))
              clear hro hgo hb11 HPL0 HNEW hol HGL HBG
              go_upto_block 0 with fail
              go_cut [18] (fun v wc => ∃ z : Int, v = .int .i64 z ∧ Hid (SinkOk N O z) ∧ Hid (wc = w11))
              case first =>
                go_wp2_with fail
                go_loopw [18, 19] (fun a b wr => ∃ k : Nat, k ≤ N ∧ a = .int .i64 (-1) ∧ b = .int .i64 k ∧ wr = w11) (fun _ c _ => N - (intOf c).toNat)
                case atStart => exact ⟨0, Nat.zero_le _, rfl, rfl, rfl⟩
                case round =>
                  obtain ⟨k, hk, rfl, rfl, rfl⟩ := hrel
                  by_cases hlt : k < N
                  · have go : wr.cell? ⟨gO, k, none⟩ = some (.bool (isOut O k)) := by
                      rw [HRO.out.cell]; simp [isOut, HOL.out, hlt]
                    cases hok : isOut O k with
                    | true =>
                      rw [hok] at go
                      clear hok
                      go_wp2
                      go_roundw
                      case rel => exact ⟨k + 1, by omega, rfl, by go_num, by first | trivial | rfl⟩
                      case measure => simp [intOf]; omega
                    | false =>
                      rw [hok] at go
                      have HK : Hid (SinkOk N O (2 * (k : Int))) := .inr ⟨k, hlt, rfl, hok⟩
                      clear hok
                      go_wp2
                      go_meet
                      case rel => exact ⟨_, rfl, HK, rfl⟩
                  · go_wp2
                    go_meet
                    case rel => exact ⟨_, rfl, .inl rfl, rfl⟩
              case rest =>
                obtain ⟨z, rfl, hsk, hwc⟩ := hcut
                have hwc' := hwc.out.symm
                clear hwc
                subst hwc'
                go_upto_if 114 with fail
                go_cut [20, 21] (fun _ _ wd => Hid (Play w11 T1 lk rows (fun s' => s'.G = s1.G ∧ s'.n = s1.n ∧ s'.F = s1.F) wd))
                case first =>
                  have HPM : Hid (∀ j : Nat, ∀ wd, Play w11 T1 lk rows (fun s' => Pl s1 s' j ∧ Rm s'.arcs) wd → Play w11 T1 lk rows (fun s' => s'.G = s1.G ∧ s'.n = s1.n ∧ s'.F = s1.F) wd) := fun j wd h => h.imp fun s hs => ⟨hs.1.G, hs.1.n, hs.1.F⟩
                  rcases hsk.out with rfl | ⟨k, hkN, rfl, hko⟩
                  · have HM : Hid (Play w11 T1 lk rows (fun s' => s'.G = s1.G ∧ s'.n = s1.n ∧ s'.F = s1.F) w11) := HPL.out.imp fun s hs => ⟨hs.1.G, hs.1.n, hs.1.F⟩
                    clear HPL
                    go_wp2
                    go_meet
                    case rel => exact HM
                  · obtain ⟨a0, _, hal0, _⟩ := HSRC.out k hkN hko
                    have HAL : Hid (0 < s1.arcs.length) := Nat.lt_of_le_of_lt (Nat.zero_le _) hal0
                    clear hko hal0 hsk
                    have hd1 : decide ((0 : Int) ≤ 2 * (k : Int)) = true := decide_eq_true (by omega)
                    go_wp2
                    simp only [hd1]
                    clear hd1
                    go_loopw [20] (fun c wr => ∃ v : Nat, v ≤ N ∧ c = .int .i64 v ∧ Hid (Play w11 T1 lk rows (fun s' => Pl s1 s' 0 ∧ Rz s'.arcs) wr)) (fun c _ => N - (intOf c).toNat)
                    case atStart => exact ⟨0, Nat.zero_le _, rfl, HPL⟩
                    case round =>
                      as_aux_lemma =>
                        obtain ⟨v, hv, rfl, HP⟩ := hrel
                        clear HPL
                        by_cases hvl : v < N
                        · have go : wr.cell? ⟨gO, v, none⟩ = some (.bool (isOut O v)) := by
                            rw [(HP.out.row HRO.out HTO.out).cell]; simp [isOut, HOL.out, hvl]
                          cases hov : isOut O v with
                          | true =>
                            rw [hov] at go
                            clear hov
                            go_wp2
                            go_roundw
                            case rel => exact ⟨v + 1, by omega, by go_num, HP⟩
                            case measure => simp [intOf]; omega
                          | false =>
                            rw [hov] at go
                            by_cases hvk : v = k
                            · subst hvk
                              clear hov
                              go_wp2
                              go_roundw
                              case rel => exact ⟨v + 1, by omega, by go_num, HP⟩
                              case measure => simp [intOf]; omega
                            · obtain ⟨a, ha1, ha2, ha3⟩ := HSRC.out v hvl hov
                              have HOP : Hid (Calls Try.prog 20 #[.pointer (some ⟨s1.F, 0, none⟩), .int .i64 v] wr fun e w' => OpenedR w11 T1 lk rows (fun s => Pl s1 s 0 ∧ Rz s.arcs) e w') := HP.out.open (by rw [HN1.out]; exact hvl) ha1 ha2 ha3
                              have hne : (2 * (v : Int) != 2 * (k : Int)) = true := by rw [bne_iff_ne]; omega
                              clear ha1 ha2 ha3 hov HP
                              go_wp2_with fail
                              refine HOP.out.mono ?_
                              rintro e w12 ⟨rfl, hP⟩
                              have HP2 : Hid (Play w11 T1 lk rows (fun s' => Pl s1 s' 0 ∧ Rz s'.arcs) w12) := hP
                              clear hP HOP
                              go_wp2
                              go_roundw
                              case rel => exact ⟨v + 1, by omega, by go_num, HP2⟩
                              case measure => simp [intOf]; omega
                        · have HP3 : Hid (Play w11 T1 lk rows (fun s' => Pl s1 s' 0 ∧ Rm s'.arcs) wr) := HP.out.imp fun s h => ⟨h.1, h.2.rm⟩
                          clear HP
                          go_wp2
                          go_loopw [21] (fun c wr => ∃ j : Nat, j ≤ N + 1 ∧ c = .int .i64 j ∧ Hid (Play w11 T1 lk rows (fun s' => Pl s1 s' j ∧ Rm s'.arcs) wr)) (fun c _ => N + 1 - (intOf c).toNat)
                          case atStart => exact ⟨0, Nat.zero_le _, rfl, HP3⟩
                          case round =>
                            obtain ⟨j, hj, rfl, HP⟩ := hrel
                            clear HP3
                            by_cases hjl : j ≤ N
                            · have HAU : Hid (Calls Try.prog 21 #[.pointer (some ⟨s1.F, 0, none⟩), .int .i64 (2 * (k : Int))] wr fun e w' => AugdR w11 T1 lk rows (fun s => Pl s1 s (j + 1) ∧ Rm s.arcs) e w') := by
                                have h := HP.out.aug (sink := 2 * k) (by rw [HN1.out]; exact hN2) (by rw [HN1.out]; omega) HAL.out (by omega)
                                rw [show ((2 * k : Nat) : Int) = 2 * (k : Int) by omega] at h
                                exact h
                              clear HP
                              go_wp2_with fail
                              refine HAU.out.mono ?_
                              rintro e w13 ⟨b, rfl, hP⟩
                              have HP2 : Hid (Play w11 T1 lk rows (fun s' => Pl s1 s' (j + 1) ∧ Rm s'.arcs) w13) := hP
                              clear hP HAU
                              cases b with
                              | true =>
                                go_wp2
                                go_roundw
                                case rel => exact ⟨j + 1, by omega, by go_num, HP2⟩
                                case measure => simp [intOf]; omega
                              | false =>
                                have HM : Hid (Play w11 T1 lk rows (fun s' => s'.G = s1.G ∧ s'.n = s1.n ∧ s'.F = s1.F) w13) := HPM.out _ _ HP2.out
                                go_wp2
                                go_meet
                                case rel => exact HM
                            · have HM : Hid (Play w11 T1 lk rows (fun s' => s'.G = s1.G ∧ s'.n = s1.n ∧ s'.F = s1.F) wr) := HPM.out _ _ HP.out
                              go_wp2
                              go_meet
                              case rel => exact HM
                case rest =>
                  obtain ⟨i0, hi0, hz0, hz1, hz2⟩ := info_parts Try.info4
                  obtain ⟨H, hH⟩ := size_name wc
                  have HH : Hid (wc.heap.size = H) := hH
                  have HP14 : Hid (Play w11 T1 lk rows (fun s' => s'.G = s1.G ∧ s'.n = s1.n ∧ s'.F = s1.F) wc) := hcut
                  clear hH hcut HPL hsk HSRC HRO HTO HOL
                  go_wp2_with (at_make; refine wpList_mk _ rfl _ _ _ rfl 4 i0 (.bool false) 1 Try.underlying36 hi0 hz0 hz1 hz2 rfl _ _ _ _ N rfl rfl rfl rfl (by omega) (by unfold maxLen; omega) H HH.out ?_; intro w15 hr15 hb15 hs15)
                  have HE : Hid (Below H wc w15 ∧ Rw w15 H 4 ((List.replicate N false).map .bool) ∧ (List.replicate N false).length = N) := ⟨hb15, by simpa using hr15, List.length_replicate⟩
                  clear hb15 hr15 hs15
                  go_wp2
                  go_loopw [23] (fun c wr => ∃ (j : Nat) (l : List Bool), j ≤ N ∧ c = .int .i64 j ∧ Hid (Below H wc wr ∧ Rw wr H 4 (l.map .bool) ∧ l.length = N)) (fun c _ => N - (intOf c).toNat)
                  case atStart => exact ⟨0, _, Nat.zero_le _, rfl, HE⟩
                  case round =>
                    as_aux_lemma =>
                      obtain ⟨j, l, hj, rfl, HL⟩ := hrel
                      clear HE
                      by_cases hjl : j < N
                      · obtain ⟨u, cj⟩ : ∃ u, wr.cell? ⟨H, j, none⟩ = some u := HL.out.2.1.there (by rw [List.length_map, HL.out.2.2]; exact hjl)
                        have fj : wr.frozen? ⟨H, j, none⟩ = false := HL.out.2.1.frozen j
                        have HL2 : Hid (Below H wc (wr.setCell ⟨H, j, none⟩ (.bool true)) ∧ Rw (wr.setCell ⟨H, j, none⟩ (.bool true)) H 4 ((l.set j true).map .bool) ∧ (l.set j true).length = N) :=
                          ⟨HL.out.1.setCell (p := ⟨H, j, none⟩) (Nat.le_refl _) _, by rw [List.map_set]; exact HL.out.2.1.set j _, by rw [List.length_set]; exact HL.out.2.2⟩
                        clear HL
                        go_wp2
                        go_roundw
                        case rel => exact ⟨j + 1, _, by omega, by go_num, HL2⟩
                        case measure => simp [intOf]; omega
                      · have HP15 : Hid (Play w11 T1 lk rows (fun s' => s'.G = s1.G ∧ s'.n = s1.n ∧ s'.F = s1.F) wr) := HP14.out.later (by rw [HH.out]; exact HL.out.1)
                        clear HL HP14
                        have HBK : Hid (Calls Try.prog 22 #[.pointer (some ⟨s1.F, 0, none⟩), .slice (some ⟨H, 0, none⟩) N N] wr fun e w' => OpenedR w11 T1 lk rows (fun s => s.G = s1.G ∧ s.n = s1.n ∧ s.F = s1.F) e w') := HP15.out.block (some ⟨H, 0, none⟩) N N
                        clear HP15
                        go_wp2_with fail
                        refine HBK.out.mono ?_
                        rintro e w16 ⟨rfl, T2, t, hg2, st2, eG, en, eF⟩
                        have HB16 : Hid (Below w8.heap.size w8 w16) := HB1.out.trans ((st2.below HGL1.out (fun i hi hh => hh (HLOW.out i hi))).mono HGG.out)
                        have htG : t.G = G := eG.trans HG1.out
                        have htn : t.n = N := en.trans HN1.out
                        have hc02 : w16.cell? ⟨G, 0, none⟩ = some (.int .i64 N) := by
                          have h := hg2.fin.own.at (t := 14) (b := t.G) (e := 83) (l := t.gcells) (by simp [FV.A]) (o := 0) (u := .int .i64 t.n) rfl
                          rw [htG, htn] at h; exact h
                        have hfin2 := finder_any (pre := some t) ⟨hg2, htG, htn⟩ xa2 xc2 xs J (by omega) (by omega) hc02 (fun r hr => by have := HSS.out r hr; omega) (by omega) (HKX.out.later HB16.out) (fun b off h => by
                          have h1 := HLX.out b off h
                          have h2 := HGG.out
                          exact hg2.low b (by rw [htG]; omega)) HIX.out HLK.out (HBD.out _)
                        have HZF : Hid (Calls Try.prog 15 #[.pointer (some ⟨G, 0, none⟩), .slice xa2 xs.length xc2, .int .i64 J] w16 fun e w' => FinderR w16 T2 G N lk rows (some t) xs J e w') :=
                          zzfinder_any (R := fun e w' => FinderR w16 T2 G N lk rows (some t) xs J e w') (hfin2.mono fun e w' h => ⟨(by obtain ⟨s, m, h1, _⟩ := h; exact ⟨s.F, h1⟩), h⟩)
                        have HTF : Hid (t.F = s1.F) := eF
                        have HTN : Hid (t.n = N) := htn
                        have HLO2 : Hid (∀ b, b < G → T2 b = 0) := fun b hb => hg2.low b (by rw [htG]; exact hb)
                        have HGL2 : Hid (G ≤ w16.heap.size) := by have h := hg2.lt; rw [htG] at h; exact Nat.le_of_lt h
                        clear hg2 st2 eG en eF htG htn hc02 hfin2 HBK HB1 HLOW HGL1
                        go_wp2_with fail
                        refine HZF.out.mono ?_
                        rintro e w17 ⟨t0, m2, rfl, _, _, hin2, ⟨T3, hg3, st3⟩, hout2, hnet2, htc2, hbl2, hsrc2⟩
                        have ht0 : t = t0 := (show t0 = t from hin2).symm
                        subst ht0
                        obtain ⟨t2, ht2⟩ : ∃ t2, t.put m2 = t2 := ⟨_, rfl⟩
                        have hF2 : t2.F = s1.F := by rw [← ht2]; exact HTF.out
                        have hn2 : t2.n = N := by rw [← ht2]; exact HTN.out
                        rw [HTF.out]
                        rw [ht2] at hg3
                        have HB17 : Hid (Below w8.heap.size w8 w17) := HB16.out.trans ((st3.below HGL2.out (fun i hi hh => hh (HLO2.out i hi))).mono HGG.out)
                        have q1 : t2.out = outL N xs J := by rw [← ht2]; exact hout2
                        have q2 : (t2.nodes, t2.arcs) = netOf (2 * N + 1) (finPairs (outL N xs J) (reachL N lk rows) N) := by rw [← ht2]; exact hnet2
                        have q3 : t2.touched = [] := by rw [← ht2]; exact htc2
                        have q4 : t2.vBlocked = .slice none 0 0 := by rw [← ht2]; exact hbl2
                        have q5 : ∀ v, v < N → isOut (outL N xs J) v = false → t2.source[v]? = some ((2 * ((linkPairs (outL N xs J) (reachL N lk rows) N).length + (srcPairs (outL N xs J) N v).length) : Nat) : Int) := fun v hv ho => by rw [← ht2]; exact hsrc2 v hv ho
                        have HNI : Hid (Calls Try.prog 17 #[.pointer (some ⟨s1.F, 0, none⟩), .int .i64 N, .bool lk, .slice ya rows.length yc, .slice xa2 xs.length xc2, .int .i64 J] w17 fun e w' => NisR w17 e w') := by
                          have h := networkIs_any (s := t2) (i := J) hg3.fin (HRS'.out.later HB17.out) (HKX.out.later HB17.out) (by rw [hn2]; exact hN2) (by rw [hn2]; exact hN1) (by rw [hn2]; exact hJ) (by rw [hn2]; exact HIX.out) (by rw [hn2]; exact HLK.out) (by rw [hn2]; exact q1) (by rw [hn2]; exact q2) q3 q4 (by rw [hn2]; exact q5) (by rw [hn2]; exact HBD.out _)
                          rw [hF2, hn2] at h; exact h
                        have HF17 : Hid (FinAt w17 T3 t2) := hg3.fin
                        have HQ1 : Hid (t2.out = outL N xs J) := q1
                        have HQ2 : Hid ((t2.nodes, t2.arcs) = netOf (2 * N + 1) (finPairs (outL N xs J) (reachL N lk rows) N)) := q2
                        have HQ3 : Hid (t2.touched = []) := q3
                        have HQ4 : Hid (t2.vBlocked = .slice none 0 0) := q4
                        have HQ5 : Hid (∀ v, v < N → isOut (outL N xs J) v = false → t2.source[v]? = some ((2 * ((linkPairs (outL N xs J) (reachL N lk rows) N).length + (srcPairs (outL N xs J) N v).length) : Nat) : Int)) := q5
                        have HF2 : Hid (t2.F = s1.F) := hF2
                        have HN2 : Hid (t2.n = N) := hn2
                        clear q1 q2 q3 q4 q5 hg3 st3 hout2 hnet2 htc2 hbl2 hsrc2 hin2 ht2 hF2 hn2 HZF HTF HTN HLO2 HGL2 HB16
                        unfold ptr0
                        have hpn := fun w => neq_fin w s1.F
                        go_wp2_with fail
                        refine HNI.out.mono ?_
                        rintro e w18 ⟨rfl, hb18⟩
                        have HF18 : Hid (FinAt w18 T3 t2) := HF17.out.later hb18
                        have HB18 : Hid (Below w8.heap.size w8 w18) := below_all HB17.out hb18
                        clear hb18 HNI HF17 HB17
                        go_wp2_with fail
                        refine (group_any N lk _ rows _ (HRS'.out.later HB18.out) (by omega) (fun r hr => by have := HSS.out r hr; omega)).mono ?_
                        rintro e w19 ⟨G2, nb2, rfl, hr19, hG2, hnb2, hb19, hsz2⟩
                        have hfin3 := finder_any (start_new hr19 hnb2 hsz2) xa2 xc2 xs J (by omega) (by omega) (hr19.at rfl) (fun r hr => by have := HSS.out r hr; omega) (by omega) (HKX.out.later (below_all HB18.out hb19)) (fun b off h => by
                          have h1 := HLX.out b off h
                          have h2 := HB18.out.size
                          unfold retag
                          rw [if_neg (by omega)]) HIX.out HLK.out (HBD.out _)
                        have HZ3 : Hid (Calls Try.prog 15 #[.pointer (some ⟨G2, 0, none⟩), .slice xa2 xs.length xc2, .int .i64 J] w19 fun e w' => FinderR w19 (retag (fun _ => 0) G2 14) G2 N lk rows none xs J e w') :=
                          zzfinder_any (R := fun e w' => FinderR w19 (retag (fun _ => 0) G2 14) G2 N lk rows none xs J e w') (hfin3.mono fun e w' h => ⟨(by obtain ⟨s, m, h1, _⟩ := h; exact ⟨s.F, h1⟩), h⟩)
                        have HB19 : Hid (Below w18.heap.size w18 w19) := hb19
                        have HG2 : Hid (w18.heap.size ≤ G2) := hG2
                        have HZ2 : Hid (w19.heap.size = G2 + 1) := hsz2
                        clear hfin3 hr19 hG2 hnb2 hb19 hsz2
                        unfold ptr0
                        go_wp2_with fail
                        refine HZ3.out.mono ?_
                        rintro e w20 ⟨s3, m3, rfl, _, hsn3, _, ⟨T5, hg5, st5⟩, hout3, hnet3, htc3, hbl3, hsrc3⟩
                        have hb20 : Below w18.heap.size w18 w20 := HB19.out.trans ((st5.below (by have := HZ2.out; omega) (fun i hi hh => hh (by unfold retag; rw [if_neg (by omega)]))).mono HG2.out)
                        have HB20 : Hid (Below w5.heap.size w5 w20) := below_all HB8.out (below_all HB18.out hb20)
                        have hq2 := HQ2.out
                        have en2 : t2.nodes = (netOf (2 * N + 1) (finPairs (outL N xs J) (reachL N lk rows) N)).1 := by rw [← hq2]
                        have ea2 : t2.arcs = (netOf (2 * N + 1) (finPairs (outL N xs J) (reachL N lk rows) N)).2 := by rw [← hq2]
                        have en3 : (s3.put m3).nodes = (netOf (2 * N + 1) (finPairs (outL N xs J) (reachL N lk rows) N)).1 := by show m3.nodes = _; rw [← hnet3]
                        have ea3 : (s3.put m3).arcs = (netOf (2 * N + 1) (finPairs (outL N xs J) (reachL N lk rows) N)).2 := by show m3.arcs = _; rw [← hnet3]
                        have HSM : Hid (Calls Try.prog 23 #[.pointer (some ⟨s1.F, 0, none⟩), .pointer (some ⟨s3.F, 0, none⟩), .int .i64 N] w20 fun e w' => SameR w20 e w') := by
                          have h := sameNetwork_any (HF18.out.later hb20) hg5.fin (by rw [HN2.out]; exact hN2) (by rw [HN2.out]; exact hsn3) (by rw [ea2, ea3]) (by rw [ea2, netOf_arcs]; have := HBD.out (outL N xs J); omega) (by rw [en2, en3]) (by rw [HQ1.out]; exact hout3)
                            (fun x _ => by show (t2.nodes.getD x []).length ≤ _; rw [en2]; have h1 := netOf_row (2 * N + 1) (finPairs (outL N xs J) (reachL N lk rows) N) x; have h2 := HBD.out (outL N xs J); omega)
                            (fun v hv ho => by rw [HN2.out] at hv; rw [HQ1.out] at ho; rw [HQ5.out v hv ho]; exact hsrc3 v hv ho) HQ3.out htc3 HQ4.out hbl3
                          rw [HF2.out, HN2.out] at h; exact h
                        clear hb20 hq2 en2 ea2 en3 ea3 hg5 st5 hout3 hnet3 htc3 hbl3 hsrc3 hsn3 HZ3 HB19 HG2 HZ2 HF18 HB18 HQ1 HQ2 HQ3 HQ4 HQ5
                        unfold ptr0
                        go_wp2_with fail
                        refine HSM.out.mono ?_
                        rintro e w21 ⟨rfl, hb21⟩
                        have HEND : Hid (NisR w5 (.returned (.bool true)) w21) := ⟨rfl, below_all HB20.out hb21⟩
                        clear hb21 HSM HB20
                        go_wp2
                        go_ret
                        exact HEND.out
end Go.Proofs.Qxb6605292a
