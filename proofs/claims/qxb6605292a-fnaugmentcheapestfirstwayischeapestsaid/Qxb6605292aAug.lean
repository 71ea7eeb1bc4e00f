/-
  (*finder).augment (f50).
-/
import Derived.Test.Qxb6605292aAug0
namespace Go.Proofs.Qxb6605292a
open Go.RowKit

set_option maxRecDepth 100000 in
set_option maxHeartbeats 4000000 in
theorem augment_all {w : World} {T : Nat → Nat} {s : FV} (h : FinAt w T s) (sink : Nat) (hn : s.n ≤ 256) (hsk : sink < 2 * s.n) (hnw : Nw s.n s.arcs s.nodes s.source) (hrm : Rm s.arcs) (hw0 : 0 ≤ s.walk) (hw1 : s.walk ≤ 1000000)
    (hse : ∀ x : Nat, ∀ y, s.seen[x]? = some y → y ≤ s.walk) (htl : s.touched.length ≤ 1000000) :
    Calls Try.prog 50 #[.pointer (some ⟨s.F, 0, none⟩), .int .i64 sink] w fun e w' => AugR w T s sink e w' := by
  obtain ⟨i0, hi0, hz0, hz1, hz2⟩ := info_parts Try.info21
  have c0 : w.cell? ⟨s.F, 0, none⟩ = some (.pointer (some ⟨s.G, 0, none⟩)) := h.f rfl
  have cg : w.cell? ⟨s.G, 0, none⟩ = some (.int .i64 s.n) := h.own.at (t := 14) (e := 83) (l := s.gcells) (by simp [FV.A]) rfl
  obtain ⟨aa, c, hv⟩ := h.arcsV
  have c3 : w.cell? ⟨s.F, 3, none⟩ = some (.slice aa s.arcs.length c) := by rw [← hv]; exact h.f rfl
  have c12 : w.cell? ⟨s.F, 12, none⟩ = some (.slice (some ⟨s.bSeen, 0, none⟩) s.V s.V) := h.f rfl
  have c15 : w.cell? ⟨s.F, 15, none⟩ = some (.slice (some ⟨s.bVia, 0, none⟩) s.V s.V) := h.f rfl
  have c11 : w.cell? ⟨s.F, 11, none⟩ = some (.int .u32 s.walk) := h.f rfl
  have f11 : w.frozen? ⟨s.F, 11, none⟩ = false := h.own.frozen (t := 1) (e := 73) (l := s.fields) (by simp [FV.A]) 11
  have hww : IntKind.u32.wrap (s.walk + 1) = s.walk + 1 := by simp [IntKind.wrap, IntKind.bits, IntKind.signed]; omega
  have hws : IntKind.i32.wrap (sink : Int) = sink := wrap32_nat (by omega)
  have hw2n : IntKind.i32.wrap (2 * (s.n : Int)) = 2 * s.n := wrap_i32_in (by omega) (by omega)
  have tF : T s.F = 1 := (h.own.arr 1 s.F 73 s.fields (by simp [FV.A])).1
  have tS : T s.bSeen = 7 := (h.own.arr 7 s.bSeen 70 (s.seen.map (.int .u32)) (by simp [FV.A])).1
  have HF : Hid (FinAt w T s) := h
  have HV : Hid (s.vArcs = .slice aa s.arcs.length c) := hv
  have HGA : Hid (0 < s.arcs.length → ∃ g, aa = some ⟨g, 0, none⟩) := fun hp => by
    obtain ⟨g', c', hv', _⟩ := HF.out.arcV hp
    rw [HV.out] at hv'
    cases hv'
    exact ⟨_, rfl⟩
  have HNW : Hid (Nw s.n s.arcs s.nodes s.source) := hnw
  have HRM : Hid (Rm s.arcs) := hrm
  have HSE : Hid (∀ x : Nat, ∀ y, s.seen[x]? = some y → y ≤ s.walk) := hse
  have HTF : Hid (T s.F = 1) := tF
  have HTS : Hid (T s.bSeen = 7) := tS
  have hal : s.arcs.length ≤ 1000000 := hnw.small
  have hV1 : s.V ≤ 2 * s.n + 1 := Nat.le_refl _
  have hV2 : 2 * s.n + 1 ≤ s.V := Nat.le_refl _
  clear h hv hnw hrm hse tF tS
  go_enter Try.func50, Try.ntmps50
  go_upto_region 2 with fail
  go_quiet (fail)
  go_upto_region 5 with fail
  have y1 := (HF.out.later (below_draws (Below.refl _ _) nq)).setWalk (s.walk + 1)
  have st1 : Step augT w T ((w.drewN nq).setCell ⟨s.F, 11, none⟩ (.int .u32 (s.walk + 1))) T := ((Step.refl augT w T).later (below_draws (Below.refl _ _) nq)).set (b := s.F) (by rw [HTF.out]; exact .inl rfl) _
  have HY1 : Hid (FinAt ((w.drewN nq).setCell ⟨s.F, 11, none⟩ (.int .u32 (s.walk + 1))) T (s.setWalk (s.walk + 1))) := y1
  have HT1 : Hid (Step augT w T ((w.drewN nq).setCell ⟨s.F, 11, none⟩ (.int .u32 (s.walk + 1))) T) := st1
  clear y1 st1
  generalize (w.drewN nq).setCell ⟨s.F, 11, none⟩ (.int .u32 (s.walk + 1)) = w1 at *
  clear c0 cg c3 c12 c15 c11 f11 hww hw2n
  have e7 : (s.setWalk (s.walk + 1)).A 7 = some (s.bSeen, 70, s.seen.map (.int .u32)) := by simp [FV.A, FV.setWalk]
  obtain ⟨u7, c7⟩ : ∃ u, w1.cell? ⟨s.bSeen, sink, none⟩ = some u := ⟨_, HY1.out.own.at e7 (by rw [List.getElem?_map, List.getElem?_eq_getElem (by have := HF.out.len.seen; omega)]; rfl)⟩
  have f7 : w1.frozen? ⟨s.bSeen, sink, none⟩ = false := HY1.out.own.frozen e7 sink
  have y2 := HY1.out.setSeen sink (s.walk + 1)
  have HY2 : Hid (FinAt (w1.setCell ⟨s.bSeen, sink, none⟩ (.int .u32 (s.walk + 1))) T ((s.setWalk (s.walk + 1)).setSeen sink (s.walk + 1))) := y2
  have HT2 : Hid (Step augT w T (w1.setCell ⟨s.bSeen, sink, none⟩ (.int .u32 (s.walk + 1))) T) := HT1.out.set (b := s.bSeen) (by rw [HTS.out]; exact .inr (.inl rfl)) _
  clear y2 e7 HY1 HT1
  go_upto_region 6 with fail
  generalize w1.setCell ⟨s.bSeen, sink, none⟩ (.int .u32 (s.walk + 1)) = w2 at *
  clear c7 f7
  obtain ⟨ao, cp, hvq⟩ := HF.out.queueV
  have hvq2 : ((s.setWalk (s.walk + 1)).setSeen sink (s.walk + 1)).vQueue = .slice ao ((s.setWalk (s.walk + 1)).setSeen sink (s.walk + 1)).queue.length cp := hvq
  have c16 : w2.cell? ⟨s.F, 16, none⟩ = some (.slice ao s.queue.length cp) := by rw [← hvq]; exact HY2.out.f rfl
  have hq3 := HY2.out.openQ hvq2
  have HQ3 : Hid (FinQ w2 T { (s.setWalk (s.walk + 1)).setSeen sink (s.walk + 1) with vQueue := .slice ao 0 cp, queue := [] } s.vQueue) := hq3
  have ra : w2.ownsRow 0 21 1 (.slice ao 0 cp) 0 [] := hq3.row13
  have hcap : s.queue.length ≤ cp := by
    obtain ⟨ao', cp', e, h1, _⟩ := ownsRow_slice (HF.out.own.row 13 s.vQueue 21 1 s.queue.length (s.queue.map (.int .i32)) (by simp [FV.R])).1
    rw [hvq] at e; cases e; exact h1
  clear hq3 hvq2
  go_wp2_with (at_builtin; refine wpList_append_lies _ rfl _ _ _ rfl 0 21 i0 _ 1 4 Try.underlying45 hi0 hz0 hz1 hz2 rfl (by omega) (.slice ao 0 cp) 0 [] rfl (ra.alloc _) ⟨w2.heap.size, 0, none⟩ 1 1 [.int .i32 sink] rfl rfl (World.news_of_block (cs := #[.int .i32 sink]) (t := 21) (fr := (0, 0)) (heap_alloc_new w2 _)) (by simp [Value.oneCell']) (by omega) (by unfold maxLen; omega) (by omega) (Nat.zero_le _) (w2.heap.size + 1) (by simp) ?_; intro g3 cap3 x3 hown3 hgrow3 hat3 hlt3)
  have hpq := HQ3.out.pushQ (x := (sink : Int)) (below_laid w2 _) hown3 hgrow3 hat3 (by simp) hlt3
  have HS0 : Hid (SQ w T s (s.walk + 1) (s.seen.set sink (s.walk + 1)) s.via (.slice (some ⟨g3, 0, none⟩) 1 cap3) [sink] x3) := ⟨retag T g3 13, hpq.1, HT2.out.trans hpq.2, SnB.set (fun x y hx => by have := HSE.out x y hx; omega) sink⟩
  have HL0 : Hid (L1 s.n sink (s.walk + 1) s.arcs s.source (s.seen.set sink (s.walk + 1)) s.via [sink] [0] 0) := by
    refine .inl ⟨BI.start _ _ hsk HF.out.len.seen HF.out.len.via (fun x y hx => by have := HSE.out x y hx; omega), Nat.zero_le _, ?_, fun p v a y hp => absurd hp (Nat.not_lt_zero _)⟩
    intro i r hr
    have h1 := (List.getElem?_eq_some_iff.1 hr).1
    simp at h1
    subst h1
    simp at hr
    omega
  clear hpq hown3 hgrow3 hat3 hlt3 HQ3 HY2 HT2 ra c16 hcap hvq
  obtain ⟨W, hW⟩ : ∃ W, s.walk + 1 = W := ⟨_, rfl⟩
  rw [hW] at HS0 HL0
  rw [hW]
  have HWE : Hid (s.walk + 1 = W) := hW
  clear hW
  go_loopw [10, 11] (fun v10 v11 wr => ∃ (hh : Nat) (sn vi : List Int) (q par : List Nat), hh ≤ 2 * s.n ∧ v11 = .int .i64 hh ∧ Hid (SQ w T s W sn vi v10 q wr) ∧ Hid (L1 s.n sink W s.arcs s.source sn vi q par hh)) (fun _ c _ => 2 * s.n + 1 - (intOf c).toNat)
  case atStart => exact ⟨0, _, _, _, _, Nat.zero_le _, rfl, HS0, HL0⟩
  case round =>
    obtain ⟨hh, sn, vi, q, par, hhb, rfl, HS, HL⟩ := hrel
    clear HS0 HL0
    obtain ⟨T1, hq1, st1, hsb1⟩ := HS.out
    obtain ⟨ao, cq, hvq⟩ := hq1.queueV
    have hql : (s.search W sn vi u10 q).queue.length = q.length := by simp [FV.search]
    rw [hql] at hvq
    have hvq' : u10 = .slice ao q.length cq := hvq
    subst hvq'
    have hsrc := (hq1.seenC (x := 2 * s.n) (by show 2 * s.n < 2 * s.n + 1; omega)).1
    have hsrc' : wr.cell? ⟨s.bSeen, 2 * s.n, none⟩ = some (.int .u32 (sn.getD (2 * s.n) 0)) := hsrc
    clear hsrc hvq hql
    rcases HL.out with ⟨hbi, hhq, hpar, hdone⟩ | ⟨hfound, hh2⟩
    · have hne : ¬ sn.getD (2 * s.n) 0 = W := by
        intro e
        apply hbi.src
        have hl := hbi.snl
        rw [List.getElem?_eq_getElem (by omega)]
        rw [List.getD_eq_getElem?_getD, List.getElem?_eq_getElem (by omega)] at e
        exact congrArg some e
      have HY0 : Hid (sn[2 * s.n]? = some (sn.getD (2 * s.n) 0)) := by
        have hl := hbi.snl
        show _ = _
        rw [List.getD_eq_getElem?_getD, List.getElem?_eq_getElem (by omega)]; rfl
      generalize sn.getD (2 * s.n) 0 = y0 at *
      have hqb := hbi.qlen
      by_cases hlt : hh < q.length
      · have HBI : Hid (BI s.n sink W s.arcs s.source sn vi q par) := hbi
        have HPA : Hid (∀ i r : Nat, par[i]? = some r → r ≤ hh) := hpar
        have HDO : Hid (Done s.n s.arcs q hh) := hdone
        obtain ⟨v, hv⟩ : ∃ v, q[hh]? = some v := ⟨_, List.getElem?_eq_getElem hlt⟩
        have HQV : Hid (q[hh]? = some v) := hv
        have hvn : v < 2 * s.n := hbi.lt v (List.mem_of_getElem? hv)
        obtain ⟨gq, rfl, cqv⟩ := hq1.queueJ (j := hh) (ao := ao) (c := cq) (by show Value.slice ao q.length cq = _; simp [FV.search]) (by simp [FV.search]; exact hlt)
        have cqv' : wr.cell? ⟨gq, hh, none⟩ = some (.int .i32 (v : Int)) := by
          rw [cqv]
          simp [FV.search, hv]
        have hnode := hq1.nodeC (x := v) (by show v < 2 * s.n + 1; omega)
        obtain ⟨an, cn, hnv, hnc⟩ := hnode
        have hnc' : wr.cell? ⟨s.bNodes, v, none⟩ = some (.slice an (s.row v).length cn) := hnc
        have c2 : wr.cell? ⟨s.F, 2, none⟩ = some (.slice (some ⟨s.bNodes, 0, none⟩) s.V s.V) := hq1.f rfl (by omega)
        have hrl := HNW.out.rows v (by omega)
        have hrl' : (s.row v).length ≤ 1000000 := hrl
        have HNV : Hid (s.vNodes[v]? = some (.slice an (s.row v).length cn)) := hnv
        clear hbi hpar hdone hv cqv hnc hnv hq1 st1 hrl HL
        go_wp2
        have hbne : (y0 != W) = true := by rw [bne_iff_ne]; exact hne
        rw [hbne]
        clear hbne
        go_loopw [10, 88] (fun v10 v88 wr => ∃ (j : Nat) (sn vi : List Int) (q par : List Nat), j ≤ (s.row v).length ∧ v88 = .int .i64 j ∧ Hid (SQ w T s W sn vi v10 q wr) ∧ Hid (BI s.n sink W s.arcs s.source sn vi q par ∧ q[hh]? = some v ∧ (∀ i r : Nat, par[i]? = some r → r ≤ hh) ∧ Done s.n s.arcs q hh ∧ DoneJ s.n s.arcs q (s.row v) j)) (fun _ c _ => (s.row v).length - (intOf c).toNat)
        case atStart => exact ⟨0, sn, vi, q, par, Nat.zero_le _, rfl, HS, HBI.out, HQV.out, HPA.out, HDO.out, DoneJ.zero _ _ _ _⟩
        case round =>
          obtain ⟨j, sn2, vi2, q2, par2, hj, rfl, HS2, HI⟩ := hrel
          clear HS HBI HQV HPA HDO hqb hlt hhb cqv' hnc' c2 hsrc' hne
          obtain ⟨T2, hq2, st2, hsb2⟩ := HS2.out
          have HSB2 : Hid (SnB W sn2) := hsb2
          clear hsb2
          obtain ⟨hbi, hqv, hpar, hdone, hdj⟩ := HI.out
          have hqb := hbi.qlen
          have hhq : hh < q2.length := (List.getElem?_eq_some_iff.1 hqv).1
          by_cases hjl : j < (s.row v).length
          · obtain ⟨a, ha1, ha2, ha3⟩ := HNW.out.row v (by omega) j hjl
            obtain ⟨g, rfl⟩ := HGA.out (by omega)
            obtain ⟨bn, rfl, cna⟩ := hq2.nodeJ (x := v) (j := j) HNV.out hjl
            have cna' : wr.cell? ⟨bn, j, none⟩ = some (.int .i32 (a : Int)) := by rw [cna]; exact congrArg (fun z => some (Value.int .i32 z)) ha1
            obtain ⟨y, hy1, hy2⟩ := HNW.out.tos a ha2
            have hatw := HNW.out.twin_lt ha2
            have ct : wr.cell? ⟨g, a * 4, none⟩ = some (.int .i32 (y : Int)) := by
              have := (hq2.arcC (a := a) (g := g) (c := c) HV.out ha2).1
              rw [← hy1]; exact this
            have cr : wr.cell? ⟨g, twin a * 4 + 1, none⟩ = some (.int .i8 (roomAt s.arcs (twin a))) := (hq2.arcC (a := twin a) (g := g) (c := c) HV.out hatw).2
            have csy := hq2.seenC (x := y) hy2
            have csy1 : wr.cell? ⟨s.bSeen, y, none⟩ = some (.int .u32 (sn2.getD y 0)) := csy.1
            have csy2 : wr.frozen? ⟨s.bSeen, y, none⟩ = false := csy.2
            have hxo : bits .xor .i32 (a : Int) 1 = (twin a : Int) := bits_twin a (by omega)
            have hrow : (s.row v)[j]? = some (a : Int) := by
              rw [List.getElem?_eq_getElem hjl]
              have : (s.row v).getD j 0 = (a : Int) := ha1
              rw [List.getD_eq_getElem?_getD, List.getElem?_eq_getElem hjl] at this
              exact congrArg some this
            have hsl := hbi.snl
            have hsy : sn2[y]? = some (sn2.getD y 0) := by
              rw [List.getD_eq_getElem?_getD, List.getElem?_eq_getElem (by omega)]; rfl
            obtain ⟨b, hb⟩ : ∃ b, twin a = b := ⟨_, rfl⟩
            have hgo : (roomAt s.arcs b = 0 ∨ sn2.getD y 0 = W ∨ y = 2 * s.n) ∨ (¬ roomAt s.arcs b = 0 ∧ ¬ sn2.getD y 0 = W ∧ ¬ y = 2 * s.n) := by omega
            rw [hb] at cr hxo hatw
            have hnx : (roomAt s.arcs b = 0 ∨ sn2.getD y 0 = W ∨ y = 2 * s.n) → DoneJ s.n s.arcs q2 (s.row v) (j + 1) := by
              intro hc
              refine hdj.succ hrow (fun z hz hzy => ?_)
              rw [hb] at hz
              have hzy' : z = y := by omega
              subst hzy'
              rcases hc with h1 | h1 | h1
              · exact absurd h1 hz
              · by_cases e : z = 2 * s.n
                · exact .inr e
                · exact .inl ((hbi.seen z (by omega)).1 (by rw [hsy, h1]))
              · exact .inr h1
            obtain ⟨rb, hrb⟩ : ∃ r, roomAt s.arcs b = r := ⟨_, rfl⟩
            obtain ⟨y0, hy0⟩ : ∃ r, sn2.getD y 0 = r := ⟨_, rfl⟩
            rw [hrb, hy0] at hgo hnx
            rw [hrb] at cr
            rw [hy0] at csy1 hsy
            have HI2 : Hid (BI s.n sink W s.arcs s.source sn2 vi2 q2 par2) := hbi
            have HQV2 : Hid (q2[hh]? = some v) := hqv
            have HPA2 : Hid (∀ i r : Nat, par2[i]? = some r → r ≤ hh) := hpar
            have HDO2 : Hid (Done s.n s.arcs q2 hh) := hdone
            have HDJ2 : Hid (DoneJ s.n s.arcs q2 (s.row v) j) := hdj
            have HNX : Hid ((rb = 0 ∨ y0 = W ∨ y = 2 * s.n) → DoneJ s.n s.arcs q2 (s.row v) (j + 1)) := hnx
            clear hnx hdone hpar hqv hbi HI hdj cna
            rcases hgo with hgo | ⟨hg1, hg2, hg3⟩
            · have HNX' : Hid (DoneJ s.n s.arcs q2 (s.row v) (j + 1)) := HNX.out hgo
              clear HNX hq2 st2 csy hsy hrow ha1 ha3 hy1 hb hrb hy0 hsl
              by_cases h1 : rb = 0
              · go_wp2
                go_roundw
                case rel => exact ⟨j + 1, sn2, vi2, q2, par2, by omega, by go_num, HS2, HI2.out, HQV2.out, HPA2.out, HDO2.out, HNX'.out⟩
                case measure => simp [intOf]; omega
              · by_cases h2 : y0 = W
                · obtain rfl : W = y0 := h2.symm
                  clear h2
                  go_wp2
                  go_roundw
                  case rel => exact ⟨j + 1, sn2, vi2, q2, par2, by omega, by go_num, HS2, HI2.out, HQV2.out, HPA2.out, HDO2.out, HNX'.out⟩
                  case measure => simp [intOf]; omega
                · have h3 : y = 2 * s.n := by rcases hgo with h | h | h <;> first | exact h | (exfalso; exact h1 h) | (exfalso; exact h2 h)
                  subst h3
                  have ct' : wr.cell? ⟨g, a * 4, none⟩ = some (.int .i32 (2 * (s.n : Int))) := by rw [ct]; simp
                  clear ct hgo
                  go_wp2
                  go_roundw
                  case rel => exact ⟨j + 1, sn2, vi2, q2, par2, by omega, by go_num, HS2, HI2.out, HQV2.out, HPA2.out, HDO2.out, HNX'.out⟩
                  case measure => simp [intOf]; omega
            · have cvy := hq2.viaC (x := y) hy2
              obtain ⟨uv, cvy1⟩ : ∃ u, wr.cell? ⟨s.bVia, y, none⟩ = some u := ⟨_, cvy.1⟩
              have cvy2 : wr.frozen? ⟨s.bVia, y, none⟩ = false := cvy.2
              have tS2 : T2 s.bSeen = 7 := (hq2.own.arr 7 s.bSeen 70 (sn2.map (.int .u32)) (by rw [FV.AQ_ne _ _ (by omega)]; simp [FV.A, FV.search])).1
              have tV2 : T2 s.bVia = 10 := (hq2.own.arr 10 s.bVia 21 (vi2.map (.int .i32)) (by rw [FV.AQ_ne _ _ (by omega)]; simp [FV.A, FV.search])).1
              have hneb : s.bSeen ≠ s.bVia := fun e => by rw [e, tV2] at tS2; omega
              have hg3' : ¬ (y : Int) = 2 * (s.n : Int) := by omega
              have hy3 : y < 2 * s.n := by omega
              have h1b : (rb == 0) = false := by rw [beq_eq_false_iff_ne]; exact hg1
              have h2b : (y0 == W) = false := by rw [beq_eq_false_iff_ne]; exact hg2
              have h3b : ((y : Int) == 2 * (s.n : Int)) = false := by rw [beq_eq_false_iff_ne]; exact hg3'
              have q3 := (hq2.setSeen y W).setVia y (b : Int)
              have HQ3 : Hid (FinQ ((wr.setCell ⟨s.bSeen, y, none⟩ (.int .u32 W)).setCell ⟨s.bVia, y, none⟩ (.int .i32 (b : Int))) T2 (s.search W (sn2.set y W) (vi2.set y (b : Int)) u10 q2) s.vQueue) := q3
              have HT3 : Hid (Step augT w T ((wr.setCell ⟨s.bSeen, y, none⟩ (.int .u32 W)).setCell ⟨s.bVia, y, none⟩ (.int .i32 (b : Int))) T2) := (st2.set (b := s.bSeen) (by rw [tS2]; exact .inr (.inl rfl)) _).set (b := s.bVia) (by rw [tV2]; exact .inr (.inr (.inl rfl))) _
              have HRW : Hid ((s.row v)[j]? = some (a : Int)) := hrow
              have HA3 : Hid (toAt s.arcs b = (v : Int)) := by rw [← hb]; exact ha3
              have HY1 : Hid (toAt s.arcs a = (y : Int)) := hy1
              have HB : Hid (twin a = b) := hb
              have HRB : Hid (roomAt s.arcs b = rb) := hrb
              have HSY : Hid (sn2[y]? = some y0) := hsy
              clear HNX q3 csy cvy hq2 st2 tS2 tV2 hrow ha1 ha3 hy1 hb hrb hy0 hsy hsl HS2
              go_upto_region 17 with fail
              generalize (wr.setCell ⟨s.bSeen, y, none⟩ (.int .u32 W)).setCell ⟨s.bVia, y, none⟩ (.int .i32 (b : Int)) = w5 at *
              clear cvy1 cvy2 csy1 csy2 ct cr cna' h1b h2b h3b
              have HMM : Hid (¬ sn2[y]? = some W) := by rw [HSY.out]; intro e; injection e with e; exact hg2 e
              have HRN : Hid (roomAt s.arcs b ≠ 0) := by rw [HRB.out]; exact hg1
              have hcase : (∃ uu b2 : Nat, y = 2 * uu ∧ s.source[uu]? = some (b2 : Int) ∧ b2 < s.arcs.length ∧ toAt s.arcs b2 = (y : Int) ∧ toAt s.arcs (twin b2) = ((2 * s.n : Nat) : Int) ∧ 0 < roomAt s.arcs b2) ∨
                  (((∃ uu b2 : Nat, y = 2 * uu ∧ s.source[uu]? = some (b2 : Int) ∧ b2 < s.arcs.length ∧ roomAt s.arcs b2 ≤ 0) ∨ y % 2 = 1) ∧ ∀ u c : Nat, y = 2 * u → s.source[u]? = some (c : Int) → roomAt s.arcs c ≤ 0) := by
                by_cases hev : y % 2 = 0
                · obtain ⟨uu, hu⟩ : ∃ uu, y = 2 * uu := ⟨y / 2, by omega⟩
                  obtain ⟨b2, hb1, hb2, hb3, hb4⟩ := HNW.out.src a uu ha2 (by rw [HY1.out, hu]) (by omega)
                  by_cases hr : 0 < roomAt s.arcs b2
                  · exact .inl ⟨uu, b2, hu, hb1, hb2, by rw [hu]; exact hb3, hb4, hr⟩
                  · refine .inr ⟨.inl ⟨uu, b2, hu, hb1, hb2, by omega⟩, fun u c hu2 hc => ?_⟩
                    have : u = uu := by omega
                    subst this
                    rw [hb1] at hc
                    injection hc with hc
                    have : b2 = c := by omega
                    subst this
                    omega
                · exact .inr ⟨.inr (by omega), fun u c hu2 => by omega⟩
              rcases hcase with ⟨uu, b2, hu, hb1, hb2, hb3, hb4, hb5⟩ | ⟨hcase, hsh⟩
              · have cs2 : w5.cell? ⟨s.bSource, uu, none⟩ = some (.int .i32 (b2 : Int)) := HQ3.out.srcC hb1
                obtain ⟨r2, hr2⟩ : ∃ r, roomAt s.arcs b2 = r := ⟨_, rfl⟩
                have cr2 : w5.cell? ⟨g, b2 * 4 + 1, none⟩ = some (.int .i8 r2) := by rw [← hr2]; exact (HQ3.out.arcC (a := b2) (g := g) (c := c) HV.out hb2).2
                have c4 : w5.cell? ⟨s.F, 4, none⟩ = some (.slice (some ⟨s.bSource, 0, none⟩) s.n s.n) := HQ3.out.f rfl (by omega)
                have hrem : (y : Int).tmod 2 = 0 := by rw [Int.tmod_eq_emod_of_nonneg (by omega)]; omega
                have hquo : (y : Int).tdiv 2 = (uu : Int) := by rw [Int.tdiv_eq_ediv_of_nonneg (by omega)]; omega
                have hr2p : 0 < r2 := by rw [← hr2]; exact hb5
                have hun : uu < s.n := by omega
                have hr2b : decide (0 < r2) = true := decide_eq_true hr2p
                have csn := HQ3.out.seenC (x := 2 * s.n) (by show 2 * s.n < 2 * s.n + 1; omega)
                have cvn := HQ3.out.viaC (x := 2 * s.n) (by show 2 * s.n < 2 * s.n + 1; omega)
                obtain ⟨us, csn1⟩ : ∃ u, w5.cell? ⟨s.bSeen, 2 * s.n, none⟩ = some u := ⟨_, csn.1⟩
                obtain ⟨uw, cvn1⟩ : ∃ u, w5.cell? ⟨s.bVia, 2 * s.n, none⟩ = some u := ⟨_, cvn.1⟩
                have csn2 : w5.frozen? ⟨s.bSeen, 2 * s.n, none⟩ = false := csn.2
                have cvn2 : w5.frozen? ⟨s.bVia, 2 * s.n, none⟩ = false := cvn.2
                obtain ⟨_, tS5, tV5⟩ := HQ3.out.tags
                have q5 := (HQ3.out.setSeen (2 * s.n) W).setVia (2 * s.n) (b2 : Int)
                have HS5 : Hid (SQ w T s W ((sn2.set y W).set (2 * s.n) W) ((vi2.set y (b : Int)).set (2 * s.n) (b2 : Int)) u10 q2 ((w5.setCell ⟨s.bSeen, 2 * s.n, none⟩ (.int .u32 W)).setCell ⟨s.bVia, 2 * s.n, none⟩ (.int .i32 (b2 : Int)))) := ⟨T2, q5, (HT3.out.set (b := s.bSeen) (by rw [show T2 s.bSeen = 7 from tS5]; exact .inr (.inl rfl)) _).set (b := s.bVia) (by rw [show T2 s.bVia = 10 from tV5]; exact .inr (.inr (.inl rfl))) _, (HSB2.out.set y).set _⟩
                have HL5 : Hid (L1 s.n sink W s.arcs s.source ((sn2.set y W).set (2 * s.n) W) ((vi2.set y (b : Int)).set (2 * s.n) (b2 : Int)) q2 par2 (hh + 1)) := by
                  refine .inr ⟨⟨sn2, vi2, y, hh, v, b, b2, HI2.out, hy3, fun hq => HMM.out ((HI2.out.seen y hy3).2 hq), rfl, rfl, HQV2.out, hatw, HA3.out, by rw [← HB.out, twin_twin]; exact HY1.out, HRN.out, hb2, hb3, hb4, hb5, HPA2.out, uu, hu, hb1⟩, ?_⟩
                  omega
                clear q5 csn cvn tS5 tV5 hb1 hb3 hb4 hb5 hr2 HI2 HQV2 HPA2 HDO2 HRW HA3 HY1 HB HRB HSY HMM HRN HQ3 HT3 HDJ2 HSB2 hg1 hg2
                clear hu
                go_wp2
                go_roundw
                case rel => exact ⟨hh + 1, _, _, _, _, by omega, by go_num, HS5, HL5⟩
                case measure => simp [intOf]; omega
              · have HSH : Hid (∀ u c : Nat, y = 2 * u → s.source[u]? = some (c : Int) → roomAt s.arcs c ≤ 0) := hsh
                clear hsh
                obtain ⟨ao5, c5, hv5⟩ := HQ3.out.queueV
                have hv5' : u10 = .slice ao5 q2.length c5 := by have h := hv5; simp only [FV.search, List.length_map] at h; exact h
                have ra5 : w5.ownsRow 0 21 1 (.slice ao5 q2.length c5) q2.length ((q2.map Int.ofNat).map (.int .i32)) := by
                  have h := HQ3.out.row13
                  rw [hv5] at h
                  simp only [FV.search, List.length_map] at h
                  exact h
                subst hv5'
                have HD6 : Hid (BI s.n sink W s.arcs s.source (sn2.set y W) (vi2.set y (b : Int)) (q2 ++ [y]) (par2 ++ [hh]) ∧ (q2 ++ [y])[hh]? = some v ∧ (∀ i r : Nat, (par2 ++ [hh])[i]? = some r → r ≤ hh) ∧ Done s.n s.arcs (q2 ++ [y]) hh ∧ DoneJ s.n s.arcs (q2 ++ [y]) (s.row v) (j + 1)) := by
                  refine ⟨HI2.out.add HQV2.out HPA2.out hatw HA3.out (by rw [← HB.out, twin_twin]; exact HY1.out) HRN.out hy3 HMM.out HSH.out, ?_, ?_, HDO2.out.grow (by omega) y, (HDJ2.out.grow y).succ HRW.out (fun z _ hz => .inl ?_)⟩
                  · rw [List.getElem?_append_left hhq]; exact HQV2.out
                  · intro i r hr
                    by_cases hi : i < par2.length
                    · rw [List.getElem?_append_left hi] at hr; exact HPA2.out i r hr
                    · rw [List.getElem?_append_right (by omega)] at hr
                      have := List.mem_of_getElem? hr
                      rw [List.mem_singleton] at this
                      omega
                  · rw [HY1.out] at hz
                    have : z = y := by omega
                    subst this
                    exact List.mem_append_right _ (List.mem_singleton.2 rfl)
                rcases hcase with ⟨uu, b2, hu, hb1, hb2, hb5⟩ | hodd
                · have cs2 : w5.cell? ⟨s.bSource, uu, none⟩ = some (.int .i32 (b2 : Int)) := HQ3.out.srcC hb1
                  obtain ⟨r2, hr2⟩ : ∃ r, roomAt s.arcs b2 = r := ⟨_, rfl⟩
                  have cr2 : w5.cell? ⟨g, b2 * 4 + 1, none⟩ = some (.int .i8 r2) := by rw [← hr2]; exact (HQ3.out.arcC (a := b2) (g := g) (c := c) HV.out hb2).2
                  have c4 : w5.cell? ⟨s.F, 4, none⟩ = some (.slice (some ⟨s.bSource, 0, none⟩) s.n s.n) := HQ3.out.f rfl (by omega)
                  have hrem : (y : Int).tmod 2 = 0 := by rw [Int.tmod_eq_emod_of_nonneg (by omega)]; omega
                  have hquo : (y : Int).tdiv 2 = (uu : Int) := by rw [Int.tdiv_eq_ediv_of_nonneg (by omega)]; omega
                  have hr2p : ¬ 0 < r2 := by rw [← hr2]; omega
                  have hun : uu < s.n := by omega
                  have hr2b : decide (0 < r2) = false := decide_eq_false hr2p
                  clear hr2 hr2p hb1 hb5 hu
                  clear HI2 HQV2 HPA2 HDO2 HRW HA3 HY1 HB HRB HSY HMM HRN HDJ2 HSH hg1 hg2
                  go_wp2_with (at_builtin; refine wpList_append_lies _ rfl _ _ _ rfl 0 21 i0 _ 1 4 Try.underlying45 hi0 hz0 hz1 hz2 rfl (by omega) (.slice ao5 q2.length c5) q2.length ((q2.map Int.ofNat).map (.int .i32)) rfl (ra5.alloc _) ⟨w5.heap.size, 0, none⟩ 1 1 [.int .i32 y] rfl rfl (World.news_of_block (cs := #[.int .i32 y]) (t := 21) (fr := (0, 0)) (heap_alloc_new w5 _)) (by simp [Value.oneCell']) (by omega) (by unfold maxLen; omega) (by omega) (Nat.zero_le _) (w5.heap.size + 1) (by simp) ?_; intro g6 cap6 x6 hown6 hgrow6 hat6 hlt6)
                  have hlq : (s.search W (sn2.set y W) (vi2.set y (b : Int)) (.slice ao5 q2.length c5) q2).queue.length = q2.length := by simp [FV.search]
                  have hpq := HQ3.out.pushQ (x := (y : Int)) (gg := g6) (cap := cap6) (below_laid w5 _) (by rw [hlq]; exact hown6) hgrow6 hat6 (by simp) hlt6
                  rw [hlq] at hpq
                  have HS6 : Hid (SQ w T s W (sn2.set y W) (vi2.set y (b : Int)) (.slice (some ⟨g6, 0, none⟩) (q2.length + 1) cap6) (q2 ++ [y]) x6) := by
                    refine ⟨retag T2 g6 13, ?_, HT3.out.trans hpq.2, HSB2.out.set y⟩
                    have e : s.search W (sn2.set y W) (vi2.set y (b : Int)) (.slice (some ⟨g6, 0, none⟩) (q2.length + 1) cap6) (q2 ++ [y]) = (s.search W (sn2.set y W) (vi2.set y (b : Int)) (.slice ao5 q2.length c5) q2).pushQ (y : Int) (.slice (some ⟨g6, 0, none⟩) (q2.length + 1) cap6) := by
                      simp [FV.search, FV.pushQ]
                    rw [e]; exact hpq.1
                  clear hpq hlq hown6 hgrow6 hat6 hlt6 ra5 hv5 HQ3 HT3 HSB2
                  go_wp2
                  go_roundw
                  case rel => exact ⟨j + 1, _, _, _, _, by omega, by go_num, HS6, HD6⟩
                  case measure => simp [intOf]; omega
                · have hrem : (y : Int).tmod 2 = 1 := by rw [Int.tmod_eq_emod_of_nonneg (by omega)]; omega
                  clear HI2 HQV2 HPA2 HDO2 HRW HA3 HY1 HB HRB HSY HMM HRN HDJ2 HSH hg1 hg2
                  go_wp2_with (at_builtin; refine wpList_append_lies _ rfl _ _ _ rfl 0 21 i0 _ 1 4 Try.underlying45 hi0 hz0 hz1 hz2 rfl (by omega) (.slice ao5 q2.length c5) q2.length ((q2.map Int.ofNat).map (.int .i32)) rfl (ra5.alloc _) ⟨w5.heap.size, 0, none⟩ 1 1 [.int .i32 y] rfl rfl (World.news_of_block (cs := #[.int .i32 y]) (t := 21) (fr := (0, 0)) (heap_alloc_new w5 _)) (by simp [Value.oneCell']) (by omega) (by unfold maxLen; omega) (by omega) (Nat.zero_le _) (w5.heap.size + 1) (by simp) ?_; intro g6 cap6 x6 hown6 hgrow6 hat6 hlt6)
                  have hlq : (s.search W (sn2.set y W) (vi2.set y (b : Int)) (.slice ao5 q2.length c5) q2).queue.length = q2.length := by simp [FV.search]
                  have hpq := HQ3.out.pushQ (x := (y : Int)) (gg := g6) (cap := cap6) (below_laid w5 _) (by rw [hlq]; exact hown6) hgrow6 hat6 (by simp) hlt6
                  rw [hlq] at hpq
                  have HS6 : Hid (SQ w T s W (sn2.set y W) (vi2.set y (b : Int)) (.slice (some ⟨g6, 0, none⟩) (q2.length + 1) cap6) (q2 ++ [y]) x6) := by
                    refine ⟨retag T2 g6 13, ?_, HT3.out.trans hpq.2, HSB2.out.set y⟩
                    have e : s.search W (sn2.set y W) (vi2.set y (b : Int)) (.slice (some ⟨g6, 0, none⟩) (q2.length + 1) cap6) (q2 ++ [y]) = (s.search W (sn2.set y W) (vi2.set y (b : Int)) (.slice ao5 q2.length c5) q2).pushQ (y : Int) (.slice (some ⟨g6, 0, none⟩) (q2.length + 1) cap6) := by
                      simp [FV.search, FV.pushQ]
                    rw [e]; exact hpq.1
                  clear hpq hlq hown6 hgrow6 hat6 hlt6 ra5 hv5 HQ3 HT3 HSB2
                  go_wp2
                  go_roundw
                  case rel => exact ⟨j + 1, _, _, _, _, by omega, by go_num, HS6, HD6⟩
                  case measure => simp [intOf]; omega
          · have HL2 : Hid (L1 s.n sink W s.arcs s.source sn2 vi2 q2 par2 (hh + 1)) := by
              have hjj : j = (s.row v).length := by omega
              subst hjj
              exact .inl ⟨hbi, by omega, fun i r hr => by have := hpar i r hr; omega, hdone.succ HNW.out hqv hdj⟩
            clear hbi hqv hpar hdone hdj HI hq2 st2
            go_wp2
            go_roundw
            case rel => exact ⟨hh + 1, sn2, vi2, q2, par2, by omega, by go_num, HS2, HL2⟩
            case measure => simp [intOf]; omega
      · have HE : Hid (BI s.n sink W s.arcs s.source sn vi q par ∧ Done s.n s.arcs q q.length) := ⟨hbi, (by have e : hh = q.length := (by omega); rw [← e]; exact hdone)⟩
        have c16 : wr.cell? ⟨s.F, 16, none⟩ = some s.vQueue := hq1.f16
        have f16 : wr.frozen? ⟨s.F, 16, none⟩ = false := hq1.ff 16
        have HCL : Hid (FinAt (wr.setCell ⟨s.F, 16, none⟩ (.slice ao q.length cq)) T1 (s.search W sn vi (.slice ao q.length cq) q)) := hq1.close
        have tF1 : T1 s.F = 1 := hq1.tags.1
        have HST : Hid (Step augT w T (wr.setCell ⟨s.F, 16, none⟩ (.slice ao q.length cq)) T1) := st1.set (b := s.F) (by rw [tF1]; exact .inl rfl) _
        have HSB : Hid (SnB W sn) := hsb1
        clear hbi hpar hdone hq1 st1 hsb1 HL HS tF1
        go_upto_region 22 with fail
        generalize wr.setCell ⟨s.F, 16, none⟩ (.slice ao q.length cq) = w9 at *
        have hsy0 : sn[2 * s.n]? = some y0 := HY0.out
        have cse : w9.cell? ⟨s.bSeen, 2 * s.n, none⟩ = some (.int .u32 y0) := HCL.out.seenC hsy0
        have HEND : Hid (AugR w T s sink (.returned (.bool false)) w9) := by
          refine ⟨false, T1, _, rfl, HCL.out, HST.out, sn, vi, .slice ao q.length cq, q, par, ?_⟩
          rw [HWE.out]
          exact ⟨HSB.out, .inl ⟨rfl, rfl, HE.out.1, HE.out.2⟩⟩
        have hbne : (y0 != W) = true := by rw [bne_iff_ne]; exact hne
        clear hsy0 HY0 HE HCL HST HSB c16 f16 hsrc'
        go_wp2
        go_ret
        exact HEND.out
    · obtain ⟨ns, ar, hway⟩ := hfound.way
      have hpos : 0 < s.arcs.length := by obtain ⟨_, _, _, _, _, _, _, _, _, _, _, _, _, h1, _⟩ := hfound; omega
      obtain ⟨g, rfl⟩ := HGA.out hpos
      clear hpos
      have HWY : Hid (Way s.arcs vi (2 * s.n) sink ns ar) := hway
      have HFD : Hid (Found s.n sink W s.arcs s.source sn vi q par) := hfound
      have hvl : vi.length = 2 * s.n + 1 ∧ sn[2 * s.n]? = some W := by
        obtain ⟨sn0, vi0, f, p, v, a, b, hb, _, _, e1, e2, _⟩ := hfound
        have k1 := hb.vil
        have k2 := hb.snl
        refine ⟨by rw [e2, List.length_set, List.length_set]; exact k1, ?_⟩
        rw [e1, List.getElem?_set_self (by rw [List.length_set]; omega)]
      have hqb : q.length ≤ 2 * s.n := by
        obtain ⟨sn0, vi0, f, p, v, a, b, hb, _⟩ := hfound
        exact hb.qlen
      have hgw : sn.getD (2 * s.n) 0 = W := by rw [List.getD_eq_getElem?_getD, hvl.2]; rfl
      rw [hgw] at hsrc'
      have har : ar.length ≤ 2 * s.n + 1 := hway.lt_len hvl.1
      have HSW : Hid (sn[2 * s.n]? = some W) := hvl.2
      have HVI : Hid (vi.length = 2 * s.n + 1) := hvl.1
      have c16 : wr.cell? ⟨s.F, 16, none⟩ = some s.vQueue := hq1.f16
      have f16 : wr.frozen? ⟨s.F, 16, none⟩ = false := hq1.ff 16
      have HCL : Hid (FinAt (wr.setCell ⟨s.F, 16, none⟩ (.slice ao q.length cq)) T1 (s.search W sn vi (.slice ao q.length cq) q)) := hq1.close
      have tF1 : T1 s.F = 1 := hq1.tags.1
      have HST : Hid (Step augT w T (wr.setCell ⟨s.F, 16, none⟩ (.slice ao q.length cq)) T1) := st1.set (b := s.F) (by rw [tF1]; exact .inl rfl) _
      have HSB : Hid (SnB W sn) := hsb1
      clear hgw hvl hway hfound hq1 st1 hsb1 HL HS tF1
      by_cases hlt : hh < q.length
      all_goals
        go_upto_region 22 with fail
        generalize wr.setCell ⟨s.F, 16, none⟩ (.slice ao q.length cq) = w9 at *
        have cse : w9.cell? ⟨s.bSeen, 2 * s.n, none⟩ = some (.int .u32 W) := HCL.out.seenC HSW.out
        clear c16 f16 hsrc' HSW
        go_wp2
        go_loopw [16] (fun v16 wr => ∃ (k x : Nat) (vt : Value) (T3 : Nat → Nat), k ≤ ar.length ∧ v16 = .int .i32 x ∧ Hid (ns[k]? = some x) ∧ Hid (FinAt wr T3 ((s.search W sn vi (.slice ao q.length cq) q).pushedAll (ar.take k) vt)) ∧ Hid (Step augT w T wr T3)) (fun c _ => ar.length - ns.idxOf (intOf c).toNat)
        case atStart =>
          refine ⟨0, 2 * s.n, s.vTouched, T1, Nat.zero_le _, by simp, HWY.out.hd, ?_, HST⟩
          rw [List.take_zero]
          show Hid (FinAt w9 T1 ((s.search W sn vi (.slice ao q.length cq) q).pushedAll [] (s.search W sn vi (.slice ao q.length cq) q).vTouched))
          rw [FV.pushedAll_nil]
          exact HCL
        case round =>
          obtain ⟨k, x, vt, T3, hk, rfl, HX, HF3, HT3⟩ := hrel
          clear HCL HST cse
          by_cases hkl : k < ar.length
          · obtain ⟨a, hak⟩ : ∃ a, ar[k]? = some a := ⟨_, List.getElem?_eq_getElem hkl⟩
            obtain ⟨u, y, a1, a2, a3, a4, a5, a6, a7⟩ := HWY.out.arc k a hak
            have hux : x = u := by have h := HX.out; rw [h] at a1; injection a1
            subst hux
            have hxs : ¬ x = sink := fun e => by
              subst e
              have := nodup_at HWY.out.nd HX.out HWY.out.last
              omega
            have hxb : ((x : Int) != (sink : Int)) = true := by rw [bne_iff_ne]; omega
            have hul : x < 2 * s.n + 1 := by rw [← HVI.out]; exact (List.getElem?_eq_some_iff.1 a3).1
            have cv : wr.cell? ⟨s.bVia, x, none⟩ = some (.int .i32 (a : Int)) := HF3.out.viaC (x := x) a3
            have hrm := HWY.out.rm HRM.out HNW.out.even k hk
            have hpush := push_any HF3.out a (by show a < (pushAll s.arcs (ar.take k)).length; rw [pushAll_len]; exact a4) (by show twin a < (pushAll s.arcs (ar.take k)).length; rw [pushAll_len]; exact HNW.out.twin_lt a4) (by show (pushAll s.arcs (ar.take k)).length ≤ _; rw [pushAll_len]; omega)
              (by show (s.touched ++ _).length ≤ _; rw [List.length_append, touch_len, List.length_take]; omega) (hrm.lo a) (hrm.hi a) (hrm.lo _) (hrm.hi _)
            have HPU : Hid (Calls Try.prog 60 #[.pointer (some ⟨s.F, 0, none⟩), .int .i32 (a : Int)] wr fun e w' => PushR wr T3 ((s.search W sn vi (.slice ao q.length cq) q).pushedAll (ar.take k) vt) a e w') := hpush
            have HAK : Hid (ar[k]? = some a) := hak
            have HA2 : Hid (ns[k + 1]? = some y) := a2
            have HA3 : Hid (vi[x]? = some (a : Int)) := a3
            have HA5 : Hid (toAt s.arcs a = (y : Int)) := a5
            clear hpush hrm hak a1 a2 a3 a5 a6 a7 hxs HF3
            go_wp2_with fail
            refine HPU.out.mono ?_
            rintro e w10 ⟨rfl, T4, v4, hF4, hS4⟩
            have HF4 : Hid (FinAt w10 T4 ((s.search W sn vi (.slice ao q.length cq) q).pushedAll (ar.take (k + 1)) v4)) := by
              show FinAt _ _ _
              rw [take_snoc HAK.out, ← FV.pushedAll_snoc _ _ vt]
              exact hF4
            have HT4 : Hid (Step augT w T w10 T4) := HT3.out.trans hS4
            have cv4 : w10.cell? ⟨s.bVia, x, none⟩ = some (.int .i32 (a : Int)) := HF4.out.viaC (x := x) HA3.out
            have ct4 : w10.cell? ⟨g, a * 4, none⟩ = some (.int .i32 (y : Int)) := by
              have h := HF4.out.arcTo (g := g) (c := c) (a := a) (m := s.arcs.length) HV.out (pushAll_len _ _) (by show a < (pushAll s.arcs (ar.take (k + 1))).length; rw [pushAll_len]; exact a4)
              rw [h]
              show some (Value.int .i32 (toAt (pushAll s.arcs (ar.take (k + 1))) a)) = _
              rw [toAt_pushAll, HA5.out]
            clear hF4 hS4 HPU HT3 cv
            go_wp2
            go_roundw
            case rel => exact ⟨k + 1, y, v4, T4, hkl, rfl, HA2, HF4, HT4⟩
            case measure =>
              have e1 := idxOf_at HWY.out.nd HX.out
              have e2 := idxOf_at HWY.out.nd HA2.out
              simp only [intOf, Int.toNat_natCast]
              rw [e1, e2]; omega
          · have hke : k = ar.length := by omega
            subst hke
            have hxs : x = sink := by have h := HX.out; rw [HWY.out.last] at h; injection h with h; exact h.symm
            subst hxs
            have HEND : Hid (AugR w T s x (.returned (.bool true)) wr) := by
              refine ⟨true, T3, _, rfl, HF3.out, HT3.out, sn, vi, .slice ao q.length cq, q, par, ?_⟩
              rw [HWE.out]
              exact ⟨HSB.out, .inr ⟨rfl, HFD.out, vt, ns, ar, by rw [List.take_length], HWY.out⟩⟩
            clear HF3 HT3
            go_wp2
            go_ret
            exact HEND.out
theorem augment_any {w : World} {T : Nat → Nat} {s : FV} (h : FinAt w T s) (sink : Nat) (hn : s.n ≤ 256) (hsk : sink < 2 * s.n) (hnw : Nw s.n s.arcs s.nodes s.source) (hrm : Rm s.arcs) (hw0 : 0 ≤ s.walk) (hw1 : s.walk ≤ 1000000)
    (hse : ∀ x : Nat, ∀ y, s.seen[x]? = some y → y ≤ s.walk) (htl : s.touched.length ≤ 1000000) (_ : 0 < s.arcs.length) :
    Calls Try.prog 50 #[.pointer (some ⟨s.F, 0, none⟩), .int .i64 sink] w fun e w' => AugR w T s sink e w' := augment_all h sink hn hsk hnw hrm hw0 hw1 hse htl
end Go.Proofs.Qxb6605292a
