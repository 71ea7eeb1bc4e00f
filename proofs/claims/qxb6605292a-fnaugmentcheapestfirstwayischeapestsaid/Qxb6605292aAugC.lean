/-
  (*finder).augmentCheapest (f56).
-/
import Derived.Test.Qxb6605292aFinS
import Derived.Deep.DeepCutAuto
import Derived.Deep.LoopGhost
namespace Go.Proofs.Qxb6605292a
open Go.RowKit

/-- What the outer loop holds. -/
def COut (s : FV) (sink : Nat) (bl : Option (List Bool)) (pt : Nat → Int) (W : Int) (sn vi ds qd : List Int) (q od : List Nat) (hh : Nat) : Prop := ∃ tm k, SI s.n sink bl W s.arcs pt sn vi ds qd q od tm k hh NoEx
/-- What the inner loop holds. -/
def CIn (s : FV) (sink : Nat) (bl : Option (List Bool)) (pt : Nat → Int) (W : Int) (m0 : Int) (v hh j : Nat) (sn vi ds qd : List Int) (q od : List Nat) : Prop := ∃ tm k, SI s.n sink bl W s.arcs pt sn vi ds qd q od tm k (hh + 1) (ExJ v (s.row v) j) ∧ v ∈ od ∧ v ∉ q.drop (hh + 1) ∧ (q.length : Int) + phi ds od (2 * s.n + 1) ≤ m0

set_option maxRecDepth 100000 in
set_option maxHeartbeats 4000000 in
theorem augmentC_any {w : World} {T : Nat → Nat} {s : FV} {bl : Option (List Bool)} {pt : Nat → Int} (h : FinAt w T s) (sink : Nat) (hn : s.n ≤ 256) (hsk : sink < 2 * s.n) (hnw : Nw s.n s.arcs s.nodes s.source) (hrm : Rm s.arcs) (hC : Cst s.n s.arcs) (hP : Pot s.n sink bl s.arcs pt) (hblk : BlkS w T s.vBlocked s.n bl)
    (hw0 : 0 ≤ s.walk) (hw1 : s.walk ≤ 1000000) (hse : SnB s.walk s.seen) (hqe : SnB s.walk s.queued) (htl : s.touched.length ≤ 1000000) :
    Calls Try.prog 56 #[.pointer (some ⟨s.F, 0, none⟩), .int .i64 sink] w fun e w' => AugCR w T s sink bl pt e w' := by
  obtain ⟨i0, hi0, hz0, hz1, hz2⟩ := info_parts Try.info21
  have c0 : w.cell? ⟨s.F, 0, none⟩ = some (.pointer (some ⟨s.G, 0, none⟩)) := h.f rfl
  have cg : w.cell? ⟨s.G, 0, none⟩ = some (.int .i64 s.n) := h.own.at (t := 14) (e := 83) (l := s.gcells) (by simp [FV.A]) rfl
  obtain ⟨aa, c, hv⟩ := h.arcsV
  have c3 : w.cell? ⟨s.F, 3, none⟩ = some (.slice aa s.arcs.length c) := by rw [← hv]; exact h.f rfl
  have c12 : w.cell? ⟨s.F, 12, none⟩ = some (.slice (some ⟨s.bSeen, 0, none⟩) s.V s.V) := h.f rfl
  have c14 : w.cell? ⟨s.F, 14, none⟩ = some (.slice (some ⟨s.bDist, 0, none⟩) s.V s.V) := h.f rfl
  have c15 : w.cell? ⟨s.F, 15, none⟩ = some (.slice (some ⟨s.bVia, 0, none⟩) s.V s.V) := h.f rfl
  have c11 : w.cell? ⟨s.F, 11, none⟩ = some (.int .u32 s.walk) := h.f rfl
  have f11 : w.frozen? ⟨s.F, 11, none⟩ = false := h.own.frozen (t := 1) (e := 73) (l := s.fields) (by simp [FV.A]) 11
  have hww : IntKind.u32.wrap (s.walk + 1) = s.walk + 1 := by simp [IntKind.wrap, IntKind.bits, IntKind.signed]; omega
  have hws : IntKind.i32.wrap (sink : Int) = sink := wrap32_nat (by omega)
  have hw2n : IntKind.i32.wrap (2 * (s.n : Int)) = 2 * s.n := wrap_i32_in (by omega) (by omega)
  have tF : T s.F = 1 := (h.own.arr 1 s.F 73 s.fields (by simp [FV.A])).1
  have tS : T s.bSeen = 7 := (h.own.arr 7 s.bSeen 70 (s.seen.map (.int .u32)) (by simp [FV.A])).1
  have tD : T s.bDist = 9 := (h.own.arr 9 s.bDist 21 (s.dist.map (.int .i32)) (by simp [FV.A])).1
  have hSD : s.bSeen ≠ s.bDist := fun e => by rw [e, tD] at tS; omega
  have HF : Hid (FinAt w T s) := h
  have HV : Hid (s.vArcs = .slice aa s.arcs.length c) := hv
  have HGA : Hid (0 < s.arcs.length → ∃ g, aa = some ⟨g, 0, none⟩) := fun hp => by
    obtain ⟨g', c', hv', _⟩ := HF.out.arcV hp
    rw [HV.out] at hv'
    cases hv'
    exact ⟨_, rfl⟩
  have HNW : Hid (Nw s.n s.arcs s.nodes s.source) := hnw
  have HRM : Hid (Rm s.arcs) := hrm
  have HC : Hid (Cst s.n s.arcs) := hC
  have HP : Hid (Pot s.n sink bl s.arcs pt) := hP
  have HBK : Hid (BlkS w T s.vBlocked s.n bl) := hblk
  have HSE : Hid (SnB s.walk s.seen) := hse
  have HQE : Hid (SnB s.walk s.queued) := hqe
  have HTF : Hid (T s.F = 1) := tF
  have HTS : Hid (T s.bSeen = 7) := tS
  have HTD : Hid (T s.bDist = 9) := tD
  have hal : s.arcs.length ≤ 1000000 := hnw.small
  have hV1 : s.V ≤ 2 * s.n + 1 := Nat.le_refl _
  have hV2 : 2 * s.n + 1 ≤ s.V := Nat.le_refl _
  clear h hv hnw hrm hse hqe hblk hC hP tF tS tD
  go_enter Try.func56, Try.ntmps56
  go_upto_region 2 with fail
  go_quiet (fail)
  go_upto_region 5 with fail
  have y1 := (HF.out.later (below_draws (Below.refl _ _) nq)).setWalk (s.walk + 1)
  have st1 : Step augCT w T ((w.drewN nq).setCell ⟨s.F, 11, none⟩ (.int .u32 (s.walk + 1))) T := ((Step.refl augCT w T).later (below_draws (Below.refl _ _) nq)).set (b := s.F) (by rw [HTF.out]; exact augCT_of (.inl rfl)) _
  have HY1 : Hid (FinAt ((w.drewN nq).setCell ⟨s.F, 11, none⟩ (.int .u32 (s.walk + 1))) T (s.setWalk (s.walk + 1))) := y1
  have HT1 : Hid (Step augCT w T ((w.drewN nq).setCell ⟨s.F, 11, none⟩ (.int .u32 (s.walk + 1))) T) := st1
  clear y1 st1
  generalize (w.drewN nq).setCell ⟨s.F, 11, none⟩ (.int .u32 (s.walk + 1)) = w1 at *
  clear c0 cg c3 c12 c14 c15 c11 f11 hww hw2n
  have e7 : (s.setWalk (s.walk + 1)).A 7 = some (s.bSeen, 70, s.seen.map (.int .u32)) := by simp [FV.A, FV.setWalk]
  obtain ⟨u7, c7⟩ : ∃ u, w1.cell? ⟨s.bSeen, 2 * s.n, none⟩ = some u := ⟨_, HY1.out.own.at e7 (by rw [List.getElem?_map, List.getElem?_eq_getElem (by have := HF.out.len.seen; omega)]; rfl)⟩
  have f7 : w1.frozen? ⟨s.bSeen, 2 * s.n, none⟩ = false := HY1.out.own.frozen e7 (2 * s.n)
  have e9 : (s.setWalk (s.walk + 1)).A 9 = some (s.bDist, 21, s.dist.map (.int .i32)) := by simp [FV.A, FV.setWalk]
  obtain ⟨u9, c9⟩ : ∃ u, w1.cell? ⟨s.bDist, 2 * s.n, none⟩ = some u := ⟨_, HY1.out.own.at e9 (by rw [List.getElem?_map, List.getElem?_eq_getElem (by have := HF.out.len.dist; omega)]; rfl)⟩
  have f9 : w1.frozen? ⟨s.bDist, 2 * s.n, none⟩ = false := HY1.out.own.frozen e9 (2 * s.n)
  have y2 := (HY1.out.setSeen (2 * s.n) (s.walk + 1)).setDist (2 * s.n) 0
  have HY2 : Hid (FinAt ((w1.setCell ⟨s.bSeen, 2 * s.n, none⟩ (.int .u32 (s.walk + 1))).setCell ⟨s.bDist, 2 * s.n, none⟩ (.int .i32 0)) T (((s.setWalk (s.walk + 1)).setSeen (2 * s.n) (s.walk + 1)).setDist (2 * s.n) 0)) := y2
  have HT2 : Hid (Step augCT w T ((w1.setCell ⟨s.bSeen, 2 * s.n, none⟩ (.int .u32 (s.walk + 1))).setCell ⟨s.bDist, 2 * s.n, none⟩ (.int .i32 0)) T) := (HT1.out.set (b := s.bSeen) (by rw [HTS.out]; exact augCT_of (.inr (.inl rfl))) _).set (b := s.bDist) (by rw [HTD.out]; exact .inr (.inl rfl)) _
  clear y2 e7 e9 HY1 HT1
  go_upto_region 6 with fail
  generalize (w1.setCell ⟨s.bSeen, 2 * s.n, none⟩ (.int .u32 (s.walk + 1))).setCell ⟨s.bDist, 2 * s.n, none⟩ (.int .i32 0) = w2 at *
  clear c7 f7 c9 f9
  obtain ⟨ao, cp, hvq⟩ := HF.out.queueV
  have hvq2 : (((s.setWalk (s.walk + 1)).setSeen (2 * s.n) (s.walk + 1)).setDist (2 * s.n) 0).vQueue = .slice ao (((s.setWalk (s.walk + 1)).setSeen (2 * s.n) (s.walk + 1)).setDist (2 * s.n) 0).queue.length cp := hvq
  have c16 : w2.cell? ⟨s.F, 16, none⟩ = some (.slice ao s.queue.length cp) := by rw [← hvq]; exact HY2.out.f rfl
  have hq3 := HY2.out.openQ hvq2
  have HQ3 : Hid (FinQ w2 T { ((s.setWalk (s.walk + 1)).setSeen (2 * s.n) (s.walk + 1)).setDist (2 * s.n) 0 with vQueue := .slice ao 0 cp, queue := [] } s.vQueue) := hq3
  have ra : w2.ownsRow 0 21 1 (.slice ao 0 cp) 0 [] := hq3.row13
  have hcap : s.queue.length ≤ cp := by
    obtain ⟨ao', cp', e, h1, _⟩ := ownsRow_slice (HF.out.own.row 13 s.vQueue 21 1 s.queue.length (s.queue.map (.int .i32)) (by simp [FV.R])).1
    rw [hvq] at e; cases e; exact h1
  clear hq3 hvq2
  go_wp2_with (at_builtin; refine wpList_append_lies _ rfl _ _ _ rfl 0 21 i0 _ 1 4 Try.underlying45 hi0 hz0 hz1 hz2 rfl (by omega) (.slice ao 0 cp) 0 [] rfl (ra.alloc _) ⟨w2.heap.size, 0, none⟩ 1 1 [.int .i32 (2 * (s.n : Int))] rfl rfl (World.news_of_block (cs := #[.int .i32 (2 * (s.n : Int))]) (t := 21) (fr := (0, 0)) (heap_alloc_new w2 _)) (by simp [Value.oneCell']) (by omega) (by unfold maxLen; omega) (by omega) (Nat.zero_le _) (w2.heap.size + 1) (by simp) ?_; intro g3 cap3 x3 hown3 hgrow3 hat3 hlt3)
  have hpq := HQ3.out.pushQ (x := 2 * (s.n : Int)) (below_laid w2 _) hown3 hgrow3 hat3 (by simp) hlt3
  have HS0 : Hid (SQC w T s (s.walk + 1) (s.seen.set (2 * s.n) (s.walk + 1)) s.via (s.dist.set (2 * s.n) 0) s.queued (.slice (some ⟨g3, 0, none⟩) 1 cap3) [2 * s.n] x3) := ⟨retag T g3 13, hpq.1, HT2.out.trans (hpq.2.mono fun _ => augCT_of), SnB.set (HSE.out.mono (by omega)) (2 * s.n), HQE.out.mono (by omega)⟩
  have HL0 : Hid (COut s sink bl pt (s.walk + 1) (s.seen.set (2 * s.n) (s.walk + 1)) s.via (s.dist.set (2 * s.n) 0) s.queued [2 * s.n] [2 * s.n] 0) := ⟨_, _, SI.start hn HP.out HF.out.len.seen HF.out.len.via HF.out.len.dist HF.out.len.queued (fun x y hx => by have := HSE.out x y hx; omega) (fun x y hx => by have := HQE.out x y hx; omega)⟩
  clear hpq hown3 hgrow3 hat3 hlt3 HQ3 HY2 HT2 ra c16 hcap hvq
  obtain ⟨W, hW⟩ : ∃ W, s.walk + 1 = W := ⟨_, rfl⟩
  rw [hW] at HS0 HL0
  rw [hW]
  have hWp : 0 < W := by omega
  have HWE : Hid (s.walk + 1 = W) := hW
  clear hW
  go_loopg [11, 12] (1 + (phi (s.dist.set (2 * s.n) 0) [2 * s.n] (2 * s.n + 1)).toNat) (fun gk v11 v12 wr => ∃ (hh : Nat) (sn vi ds qd : List Int) (q od : List Nat), gk = (q.length + (phi ds od (2 * s.n + 1)).toNat) - hh ∧ hh ≤ 263170 ∧ v12 = .int .i64 hh ∧ Hid (SQC w T s W sn vi ds qd v11 q wr) ∧ Hid (COut s sink bl pt W sn vi ds qd q od hh))
  case atStart => exact ⟨0, _, _, _, _, _, _, rfl, Nat.zero_le _, rfl, HS0, HL0⟩
  case round =>
    obtain ⟨hh, sn, vi, ds, qd, q, od, hgk, hhb, rfl, HS, HL⟩ := hrel
    clear HS0 HL0
    obtain ⟨T1, hq1, st1, hsb1, hqb1⟩ := HS.out
    obtain ⟨ao, cq, hvq⟩ := hq1.queueV
    have hql : (s.searchC W sn vi ds qd u11 q).queue.length = q.length := by simp [FV.searchC]
    rw [hql] at hvq
    have hvq' : u11 = .slice ao q.length cq := hvq
    subst hvq'
    clear hvq hql
    obtain ⟨tm, k, hsi⟩ := HL.out
    have hqb := hsi.qlen HP.out
    have hpq := hsi.pq
    have hph := hsi.phi0 HP.out
    by_cases hlt : hh < q.length
    · obtain ⟨v, hv⟩ : ∃ v, q[hh]? = some v := ⟨_, List.getElem?_eq_getElem hlt⟩
      have hpop := hsi.pop hWp hv (s.row v)
      have hvn : v < 2 * s.n + 1 := hsi.lt v (hsi.qin v (List.mem_of_getElem? hv))
      obtain ⟨gq, rfl, cqv⟩ := hq1.queueJ (j := hh) (ao := ao) (c := cq) (by show Value.slice ao q.length cq = _; simp [FV.searchC]) (by simp [FV.searchC]; exact hlt)
      have cqv' : wr.cell? ⟨gq, hh, none⟩ = some (.int .i32 (v : Int)) := by rw [cqv]; simp [FV.searchC, hv]
      have c13 : wr.cell? ⟨s.F, 13, none⟩ = some (.slice (some ⟨s.bQueued, 0, none⟩) s.V s.V) := hq1.f rfl (by omega)
      have cqd := hq1.queuedC (x := v) hvn
      obtain ⟨uq, cqd1⟩ : ∃ u, wr.cell? ⟨s.bQueued, v, none⟩ = some u := ⟨_, cqd.1⟩
      have cqd2 : wr.frozen? ⟨s.bQueued, v, none⟩ = false := cqd.2
      have tQ1 : T1 s.bQueued = 8 := hq1.tagsC.1
      have q4 := hq1.setQueued v 0
      have HS4 : Hid (SQC w T s W sn vi ds (qd.set v 0) (.slice (some ⟨gq, 0, none⟩) q.length cq) q (wr.setCell ⟨s.bQueued, v, none⟩ (.int .u32 0))) := ⟨T1, q4, st1.set (b := s.bQueued) (by rw [tQ1]; exact .inl rfl) _, hsb1, hqb1.set0 (by omega) v⟩
      obtain ⟨m0, hm0⟩ : ∃ m : Int, (q.length : Int) + phi ds od (2 * s.n + 1) = m := ⟨_, rfl⟩
      have HI4 : Hid (CIn s sink bl pt W m0 v hh 0 sn vi ds (qd.set v 0) q od) := ⟨tm, k, hpop.1, hpop.2.1, hpop.2.2, by rw [hm0]; exact Int.le_refl _⟩
      have HSD4 : Hid (v = sink → COut s sink bl pt W sn vi ds (qd.set v 0) q od (hh + 1)) := fun e => ⟨tm, k, by have h := hpop.1; subst e; exact h.sinkDone⟩
      have HM0 : Hid (gk = m0.toNat - hh ∧ (hh : Int) < m0) := ⟨by omega, by omega⟩
      have HM1 : Hid ((q.length : Int) + phi ds od (2 * s.n + 1) = m0 ∧ 0 ≤ phi ds od (2 * s.n + 1)) := ⟨hm0, hph⟩
      clear hsi hpop hv cqv cqd hq1 st1 hsb1 hqb1 tQ1 q4 HS HL hgk hm0 hph
      go_upto_region 12 with fail
      generalize wr.setCell ⟨s.bQueued, v, none⟩ (.int .u32 0) = w4 at *
      clear c13 cqd1 cqd2 cqv'
      by_cases hvs : v = sink
      · have HL4 : Hid (COut s sink bl pt W sn vi ds (qd.set v 0) q od (hh + 1)) := HSD4.out hvs
        have hvb : ((v : Int) == (sink : Int)) = true := by rw [beq_iff_eq]; omega
        clear HSD4 HI4
        go_wp2
        go_roundg (q.length + (phi ds od (2 * s.n + 1)).toNat - (hh + 1))
        case rel => exact ⟨hh + 1, sn, vi, ds, qd.set v 0, q, od, rfl, by omega, by go_num, HS4, HL4⟩
        case measure =>
          have h1 := HM0.out
          have h2 := HM1.out
          omega
      · have hvb : ((v : Int) == (sink : Int)) = false := by rw [beq_eq_false_iff_ne]; omega
        obtain ⟨T4, hq4, st4, hsb4, hqb4⟩ := HS4.out
        obtain ⟨an, cn, hnv, hnc⟩ := hq4.nodeC (x := v) hvn
        have hnc' : w4.cell? ⟨s.bNodes, v, none⟩ = some (.slice an (s.row v).length cn) := hnc
        have c2 : w4.cell? ⟨s.F, 2, none⟩ = some (.slice (some ⟨s.bNodes, 0, none⟩) s.V s.V) := hq4.f rfl (by omega)
        have hrl' : (s.row v).length ≤ 1000000 := HNW.out.rows v hvn
        have HNV : Hid (s.vNodes[v]? = some (.slice an (s.row v).length cn)) := hnv
        clear HSD4 HM1 hnv hnc hq4 st4 hsb4 hqb4
        go_wp2
        go_loopw [11, 99] (fun v11 v99 wr => ∃ (j : Nat) (sn vi ds qd : List Int) (q od : List Nat), j ≤ (s.row v).length ∧ v99 = .int .i64 j ∧ Hid (SQC w T s W sn vi ds qd v11 q wr) ∧ Hid (CIn s sink bl pt W m0 v hh j sn vi ds qd q od)) (fun _ c _ => (s.row v).length - (intOf c).toNat)
        case atStart => exact ⟨0, sn, vi, ds, _, q, od, Nat.zero_le _, rfl, HS4, HI4⟩
        case round =>
          obtain ⟨j, sn2, vi2, ds2, qd2, q2, od2, hj, rfl, HS2, HI⟩ := hrel
          clear HS4 HI4 hnc' c2 hqb hpq hlt
          by_cases hjl : j < (s.row v).length
          · obtain ⟨T2, hq2, st2, hsb2, hqb2⟩ := HS2.out
            obtain ⟨tm2, k2, hsi, hvo, hvp, hmu⟩ := HI.out
            obtain ⟨a, ha1, ha2, ha3⟩ := HNW.out.row v hvn j hjl
            obtain ⟨g, rfl⟩ := HGA.out (by omega)
            obtain ⟨bn, rfl, cna⟩ := hq2.nodeJ (x := v) (j := j) HNV.out hjl
            have cna' : wr.cell? ⟨bn, j, none⟩ = some (.int .i32 (a : Int)) := by rw [cna]; exact congrArg (fun z => some (Value.int .i32 z)) ha1
            obtain ⟨y, hy1, hy2⟩ := HNW.out.tos a ha2
            have ct : wr.cell? ⟨g, a * 4, none⟩ = some (.int .i32 (y : Int)) := by
              have := (hq2.arcC (a := a) (g := g) (c := c) HV.out ha2).1
              rw [← hy1]; exact this
            have cr : wr.cell? ⟨g, a * 4 + 1, none⟩ = some (.int .i8 (roomAt s.arcs a)) := (hq2.arcC (a := a) (g := g) (c := c) HV.out ha2).2
            have cc : wr.cell? ⟨g, a * 4 + 3, none⟩ = some (.int .i8 (costAt s.arcs a)) := hq2.costC (a := a) (g := g) (c := c) HV.out ha2
            have hrow : (s.row v)[j]? = some (a : Int) := by
              rw [List.getElem?_eq_getElem hjl]
              have : (s.row v).getD j 0 = (a : Int) := ha1
              rw [List.getD_eq_getElem?_getD, List.getElem?_eq_getElem hjl] at this
              exact congrArg some this
            have hcl := HC.out.lo a
            have hch := HC.out.hi a
            obtain ⟨r, hr⟩ : ∃ r, roomAt s.arcs a = r := ⟨_, rfl⟩
            obtain ⟨ca, hca⟩ : ∃ r, costAt s.arcs a = r := ⟨_, rfl⟩
            rw [hr] at cr
            rw [hca] at cc hcl hch
            have hdl := hsi.lo v hvo
            have hdp := HP.out.lo v
            have hdh := hsi.hi v hvo
            have hod := hsi.odlen
            have cdv := (hq2.distC (x := v) hvn).1
            have cdv' : wr.cell? ⟨s.bDist, v, none⟩ = some (.int .i32 (lbA ds2 v)) := cdv
            obtain ⟨dv, hdv⟩ : ∃ d, lbA ds2 v = d := ⟨_, rfl⟩
            rw [hdv] at cdv' hdl hdh
            have hd1 : 0 ≤ dv := by omega
            have hd2 : dv ≤ 600 := by omega
            have hwca : IntKind.i32.wrap ca = ca := wrap_i32_in (by omega) (by omega)
            have hwd : IntKind.i32.wrap (dv + ca) = dv + ca := wrap_i32_in (by omega) (by omega)
            have csy := hq2.seenC (x := y) hy2
            have csy1 : wr.cell? ⟨s.bSeen, y, none⟩ = some (.int .u32 (sn2.getD y 0)) := csy.1
            have csy2 : wr.frozen? ⟨s.bSeen, y, none⟩ = false := csy.2
            have cdy := hq2.distC (x := y) hy2
            have cdy1 : wr.cell? ⟨s.bDist, y, none⟩ = some (.int .i32 (lbA ds2 y)) := cdy.1
            have cdy2 : wr.frozen? ⟨s.bDist, y, none⟩ = false := cdy.2
            have cvy := hq2.viaC (x := y) hy2
            obtain ⟨uv, cvy1⟩ : ∃ u, wr.cell? ⟨s.bVia, y, none⟩ = some u := ⟨_, cvy.1⟩
            have cvy2 : wr.frozen? ⟨s.bVia, y, none⟩ = false := cvy.2
            have hseen : sn2.getD y 0 = W ↔ y ∈ od2 := by
              rw [← hsi.seen y hy2, List.getElem?_eq_getElem (by rw [hsi.snl]; exact hy2), List.getD_eq_getElem?_getD, List.getElem?_eq_getElem (by rw [hsi.snl]; exact hy2)]
              simp
            obtain ⟨y0, hy0⟩ : ∃ z, sn2.getD y 0 = z := ⟨_, rfl⟩
            obtain ⟨dy, hdy⟩ : ∃ z, lbA ds2 y = z := ⟨_, rfl⟩
            rw [hy0] at csy1 hseen
            rw [hdy] at cdy1
            have hbk := HBK.out.step st2 augCT0
            have c6 : wr.cell? ⟨s.F, 6, none⟩ = some s.vBlocked := hq2.f rfl (by omega)
            have HSN : Hid (y0 = W ↔ y ∈ od2) := hseen
            have HBK2 : Hid (BlkS wr T2 s.vBlocked s.n bl) := hbk
            have HQ2 : Hid (FinQ wr T2 (s.searchC W sn2 vi2 ds2 qd2 u11 q2) s.vQueue) := hq2
            have HT2 : Hid (Step augCT w T wr T2) := st2
            have HSB2 : Hid (SnB W sn2 ∧ SnB W qd2) := ⟨hsb2, hqb2⟩
            have HRW : Hid ((s.row v)[j]? = some (a : Int)) := hrow
            have HA3 : Hid (toAt s.arcs (twin a) = (v : Int)) := ha3
            have HY1 : Hid (toAt s.arcs a = (y : Int)) := hy1
            have HR0 : Hid (roomAt s.arcs a = r) := hr
            have HCA : Hid (costAt s.arcs a = ca) := hca
            have HDV : Hid (lbA ds2 v = dv) := hdv
            have HDY : Hid (lbA ds2 y = dy) := hdy
            have HY0 : Hid (sn2.getD y 0 = y0) := hy0
            clear hseen hbk hq2 st2 hsb2 hqb2 hrow ha1 ha3 hy1 hr hca hdv hdy hy0 csy cdy cvy cna cdv hsi hvo hvp hmu hdl hdp hdh hod hcl hch
            go_upto_region 18 with fail
            go_cut [142] (fun v wc => v = .bool (skipB s.n sink bl r y) ∧ Hid (wc = wr))
            case first =>
              clear cc cdv' csy1 csy2 cdy1 cdy2 cvy1 cvy2 HSN HQ2 HT2 HSB2 HRW HA3 HY1 HR0 HCA HDV HDY HY0 HI HS2
              by_cases h1 : r = 0
              · have HB : Hid (skipB s.n sink bl r y = true) := by show _ = _; simp [skipB, h1]
                go_wp2
                go_meet
                case rel => exact ⟨by rw [HB.out], rfl⟩
              · have h1b : (r == 0) = false := by rw [beq_eq_false_iff_ne]; exact h1
                by_cases h2 : y = 2 * s.n
                · have HB : Hid (skipB s.n sink bl r y = true) := by show _ = _; simp [skipB, h2]
                  have h2b : ((y : Int) == 2 * (s.n : Int)) = true := by rw [beq_iff_eq]; omega
                  clear h2
                  go_wp2
                  go_meet
                  case rel => exact ⟨by rw [HB.out], rfl⟩
                · have h2b : ((y : Int) == 2 * (s.n : Int)) = false := by rw [beq_eq_false_iff_ne]; omega
                  cases bl with
                  | none =>
                    have HB : Hid (skipB s.n sink none r y = false) := by show _ = _; simp [skipB, allowB, h1, h2]
                    have hvb6 : s.vBlocked = .slice none 0 0 := HBK2.out
                    rw [hvb6] at c6
                    have h36 : ∀ w : World, (binOp .neq 36 (.slice none 0 0) (.slice none 0 0)).run Try.prog w = .ok (.bool false) w := fun w => run_neq_slice_nil_any w _ _ none 0 0 0 0 Try.underlying36
                    clear h2 hvb6
                    go_wp2
                    go_meet
                    case rel => exact ⟨by rw [HB.out], rfl⟩
                  | some bs =>
                    obtain ⟨k1, k3, b, cap, hvb6, hrb, _⟩ := HBK2.out
                    rw [hvb6] at c6
                    have h36 : ∀ w : World, (binOp .neq 36 (.slice (some ⟨b, 0, none⟩) bs.length cap) (.slice none 0 0)).run Try.prog w = .ok (.bool true) w := fun w => run_neq_slice_nil_any w _ _ (some ⟨b, 0, none⟩) bs.length cap 0 0 Try.underlying36
                    by_cases h3 : y = sink
                    · have HB : Hid (skipB s.n sink (some bs) r y = false) := by show _ = _; simp [skipB, allowB, h1, h3]; omega
                      have h3b : ((y : Int) != (sink : Int)) = false := by simp [h3]
                      clear h2 h3 hvb6 hrb
                      go_wp2
                      go_meet
                      case rel => exact ⟨by rw [HB.out], rfl⟩
                    · have h3b : ((y : Int) != (sink : Int)) = true := by rw [bne_iff_ne]; omega
                      have hxl : y / 2 < bs.length := by omega
                      have hq : (y : Int).tdiv 2 = ((y / 2 : Nat) : Int) := by rw [Int.tdiv_eq_ediv_of_nonneg (by omega)]; omega
                      have c1 : wr.cell? ⟨b, y / 2, none⟩ = some (.bool bs[y / 2]) := by rw [hrb.cell]; simp [hxl]
                      have HB : Hid (skipB s.n sink (some bs) r y = bs[y / 2]) := by show _ = _; simp [skipB, allowB, h1, h2, h3, hxl]
                      generalize bs[y / 2] = bx at *
                      obtain ⟨yy, hyy⟩ : ∃ yy, y / 2 = yy := ⟨_, rfl⟩
                      rw [hyy] at hq hxl c1
                      clear hyy hvb6 hrb
                      go_wp2
                      go_meet
                      case rel => exact ⟨by rw [HB.out], rfl⟩
            case rest =>
              obtain ⟨rfl, hwc⟩ := hcut
              have hwc' := hwc.out.symm
              clear hwc
              subst hwc'
              clear HBK2 c6 cr
              cases hskp : skipB s.n sink bl r y with
              | true =>
                have HI5 : Hid (CIn s sink bl pt W m0 v hh (j + 1) sn2 vi2 ds2 qd2 q2 od2) := by
                  obtain ⟨tm2, k2, hsi, hvo, hvp, hmu⟩ := HI.out
                  refine ⟨tm2, k2, hsi.skip HRW.out HY1.out ?_, hvo, hvp, hmu⟩
                  rw [HR0.out]
                  rcases skipB_true hskp with h | h | h
                  · exact .inl h
                  · exact .inr (.inl h)
                  · exact .inr (.inr (.inl h))
                clear HSN HQ2 HT2 HSB2 HRW HA3 HY1 HR0 HCA HDV HDY HY0 HI hskp cc cdv' csy1 csy2 cdy1 cdy2 cvy1 cvy2
                go_wp2
                go_roundw
                case rel => exact ⟨j + 1, sn2, vi2, ds2, qd2, q2, od2, by omega, by go_num, HS2, HI5⟩
                case measure => simp [intOf]; omega
              | false =>
                have hnsk := skipB_false hskp
                have HNS : Hid (r ≠ 0 ∧ y ≠ 2 * s.n ∧ allowB s.n sink bl y = true) := hnsk
                clear hskp hnsk
                go_upto_region 19 with fail
                go_quiet (fail)
                go_upto_region 20 with fail
                have HQ5 : Hid (FinQ (wr.drewN nq) T2 (s.searchC W sn2 vi2 ds2 qd2 u11 q2) s.vQueue) := HQ2.out.later (below_draws (Below.refl _ _) nq)
                have HT5 : Hid (Step augCT w T (wr.drewN nq) T2) := HT2.out.later (below_draws (Below.refl _ _) nq)
                generalize wr.drewN nq = w5 at *
                clear cna' ct cc cdv' csy1 csy2 cdy1 cdy2 cvy1 cvy2 HQ2 HT2 HS2
                have csy1 : w5.cell? ⟨s.bSeen, y, none⟩ = some (.int .u32 y0) := by rw [← HY0.out]; exact (HQ5.out.seenC (x := y) hy2).1
                have csy2 : w5.frozen? ⟨s.bSeen, y, none⟩ = false := (HQ5.out.seenC (x := y) hy2).2
                have cdy1 : w5.cell? ⟨s.bDist, y, none⟩ = some (.int .i32 dy) := by rw [← HDY.out]; exact (HQ5.out.distC (x := y) hy2).1
                have cdy2 : w5.frozen? ⟨s.bDist, y, none⟩ = false := (HQ5.out.distC (x := y) hy2).2
                obtain ⟨uv, cvy1⟩ : ∃ u, w5.cell? ⟨s.bVia, y, none⟩ = some u := ⟨_, (HQ5.out.viaC (x := y) hy2).1⟩
                have cvy2 : w5.frozen? ⟨s.bVia, y, none⟩ = false := (HQ5.out.viaC (x := y) hy2).2
                obtain ⟨d, hd⟩ : ∃ d, dv + ca = d := ⟨_, rfl⟩
                have HDD : Hid (d = dv + ca) := hd.symm
                rw [hd]
                clear hd hwd hwca hd1 hd2
                obtain ⟨B, hB⟩ : ∃ B, (decide (y ∈ od2) && decide (dy ≤ d)) = B := ⟨_, rfl⟩
                have HBB : Hid ((decide (y ∈ od2) && decide (dy ≤ d)) = B) := hB
                clear hB
                go_cut [166] (fun v wc => v = .bool B ∧ Hid (wc = w5))
                case first =>
                  by_cases hin : y ∈ od2
                  · have h0b : (y0 == W) = true := by rw [beq_iff_eq]; exact HSN.out.2 hin
                    have HB : Hid (B = decide (dy ≤ d)) := by show _ = _; rw [← HBB.out]; simp [hin]
                    clear hin
                    go_wp2
                    go_meet
                    case rel => exact ⟨by rw [HB.out], rfl⟩
                  · have h0b : (y0 == W) = false := by rw [beq_eq_false_iff_ne]; exact fun e => hin (HSN.out.1 e)
                    have HB : Hid (B = false) := by show _ = _; rw [← HBB.out]; simp [hin]
                    clear hin
                    go_wp2
                    go_meet
                    case rel => exact ⟨by rw [HB.out], rfl⟩
                case rest =>
                  obtain ⟨rfl, hwc⟩ := hcut
                  have hwc' := hwc.out.symm
                  clear hwc
                  subst hwc'
                  cases B with
                  | true =>
                    have HI5 : Hid (CIn s sink bl pt W m0 v hh (j + 1) sn2 vi2 ds2 qd2 q2 od2) := by
                      obtain ⟨tm2, k2, hsi, hvo, hvp, hmu⟩ := HI.out
                      have hb := HBB.out
                      simp at hb
                      refine ⟨tm2, k2, hsi.skip HRW.out HY1.out (.inr (.inr (.inr ⟨hb.1, ?_⟩))), hvo, hvp, hmu⟩
                      rw [HDV.out, HDY.out, HCA.out, ← HDD.out]
                      exact hb.2
                    have HS5 : Hid (SQC w T s W sn2 vi2 ds2 qd2 u11 q2 w5) := ⟨T2, HQ5.out, HT5.out, HSB2.out.1, HSB2.out.2⟩
                    clear HSN HQ5 HT5 HSB2 HRW HA3 HY1 HR0 HCA HDV HDY HY0 HI HNS HDD HBB csy1 csy2 cdy1 cdy2 cvy1 cvy2
                    go_wp2
                    go_roundw
                    case rel => exact ⟨j + 1, sn2, vi2, ds2, qd2, q2, od2, by omega, by go_num, HS5, HI5⟩
                    case measure => simp [intOf]; omega
                  | false =>
                    have HOD : Hid (∃ od3, (y ∈ od2 ∧ od3 = od2 ∧ d < lbA ds2 y) ∨ (y ∉ od2 ∧ od3 = od2 ++ [y])) := by
                      have hb := HBB.out
                      by_cases hin : y ∈ od2
                      · refine ⟨od2, .inl ⟨hin, rfl, ?_⟩⟩
                        rw [HDY.out]
                        simp [hin] at hb
                        exact hb
                      · exact ⟨_, .inr ⟨hin, rfl⟩⟩
                    obtain ⟨od3, hod3⟩ := HOD.out
                    have HO3 : Hid ((y ∈ od2 ∧ od3 = od2 ∧ d < lbA ds2 y) ∨ (y ∉ od2 ∧ od3 = od2 ++ [y])) := hod3
                    have HRX : Hid (∀ q' qd', ((y ∈ q2.drop (hh + 1) ∧ q' = q2 ∧ qd' = qd2) ∨ (y ∉ q2.drop (hh + 1) ∧ q' = q2 ++ [y] ∧ qd' = qd2.set y W)) → CIn s sink bl pt W m0 v hh (j + 1) (sn2.set y W) (vi2.set y (a : Int)) (ds2.set y d) qd' q' od3) := by
                      intro q' qd' hq'
                      obtain ⟨tm2, k2, hsi, hvo, hvp, hmu⟩ := HI.out
                      have hx := hsi.relax (d := d) (od' := od3) (q' := q') (qd' := qd') hn HC.out HP.out HRW.out hvo hvs hvp ha2 HA3.out HY1.out hy2 (by rw [HR0.out]; exact HNS.out.1) HNS.out.2.1 HNS.out.2.2 (by rw [HDV.out, HCA.out]; exact HDD.out) hod3 hq'
                      exact ⟨_, _, hx.1, hx.2.1, hx.2.2.1, by have := hx.2.2.2; omega⟩
                    have HQL : Hid (q2.length ≤ 263170 ∧ (qd2.getD y 0 = W ↔ y ∈ q2.drop (hh + 1))) := by
                      obtain ⟨tm2, k2, hsi, hvo, hvp, hmu⟩ := HI.out
                      have hyn := HNS.out.2.1
                      refine ⟨hsi.qlen HP.out, ?_⟩
                      rw [← hsi.qw y (by omega), List.getElem?_eq_getElem (by rw [hsi.qdl]; exact hy2), List.getD_eq_getElem?_getD, List.getElem?_eq_getElem (by rw [hsi.qdl]; exact hy2)]
                      simp
                    have tS5 : T2 s.bSeen = 7 := HQ5.out.tags.2.1
                    have tV5 : T2 s.bVia = 10 := HQ5.out.tags.2.2
                    have tQ5 : T2 s.bQueued = 8 := HQ5.out.tagsC.1
                    have tD5 : T2 s.bDist = 9 := HQ5.out.tagsC.2
                    have n1 : s.bSeen ≠ s.bDist := fun e => by rw [e, tD5] at tS5; omega
                    have n2 : s.bSeen ≠ s.bVia := fun e => by rw [e, tV5] at tS5; omega
                    have n3 : s.bDist ≠ s.bVia := fun e => by rw [e, tV5] at tD5; omega
                    have HQ6 : Hid (FinQ (((w5.setCell ⟨s.bSeen, y, none⟩ (.int .u32 W)).setCell ⟨s.bDist, y, none⟩ (.int .i32 d)).setCell ⟨s.bVia, y, none⟩ (.int .i32 (a : Int))) T2 (s.searchC W (sn2.set y W) (vi2.set y (a : Int)) (ds2.set y d) qd2 u11 q2) s.vQueue) := ((HQ5.out.setSeen y W).setDist y d).setVia y (a : Int)
                    have HT6 : Hid (Step augCT w T (((w5.setCell ⟨s.bSeen, y, none⟩ (.int .u32 W)).setCell ⟨s.bDist, y, none⟩ (.int .i32 d)).setCell ⟨s.bVia, y, none⟩ (.int .i32 (a : Int))) T2) := ((HT5.out.set (b := s.bSeen) (by rw [tS5]; exact augCT_of (.inr (.inl rfl))) _).set (b := s.bDist) (by rw [tD5]; exact .inr (.inl rfl)) _).set (b := s.bVia) (by rw [tV5]; exact augCT_of (.inr (.inr (.inl rfl)))) _
                    have HTQ : Hid (T2 s.bQueued = 8) := tQ5
                    clear tS5 tV5 tQ5 tD5 hod3 HOD HI HSN HQ5 HT5 HRW HA3 HY1 HR0 HCA HDV HDY HY0 HDD HBB HO3
                    go_upto_region 22 with fail
                    generalize ((w5.setCell ⟨s.bSeen, y, none⟩ (.int .u32 W)).setCell ⟨s.bDist, y, none⟩ (.int .i32 d)).setCell ⟨s.bVia, y, none⟩ (.int .i32 (a : Int)) = w6 at *
                    clear csy1 csy2 cdy1 cdy2 cvy1 cvy2 n1 n2 n3
                    have c13 : w6.cell? ⟨s.F, 13, none⟩ = some (.slice (some ⟨s.bQueued, 0, none⟩) s.V s.V) := HQ6.out.f rfl (by omega)
                    have cqy := HQ6.out.queuedC (x := y) hy2
                    have cqy1 : w6.cell? ⟨s.bQueued, y, none⟩ = some (.int .u32 (qd2.getD y 0)) := cqy.1
                    have cqy2 : w6.frozen? ⟨s.bQueued, y, none⟩ = false := cqy.2
                    clear cqy
                    obtain ⟨zq, hzq⟩ : ∃ z, qd2.getD y 0 = z := ⟨_, rfl⟩
                    have HZ : Hid (zq = W ↔ y ∈ q2.drop (hh + 1)) := by show _ ↔ _; rw [← hzq]; exact HQL.out.2
                    have hq2l := HQL.out.1
                    rw [hzq] at cqy1
                    clear hzq HQL
                    by_cases hz : zq = W
                    · have hzb : (zq != W) = false := by simp [hz]
                      have HI6 : Hid (CIn s sink bl pt W m0 v hh (j + 1) (sn2.set y W) (vi2.set y (a : Int)) (ds2.set y d) qd2 q2 od3) := HRX.out q2 qd2 (.inl ⟨HZ.out.1 hz, rfl, rfl⟩)
                      have HS6 : Hid (SQC w T s W (sn2.set y W) (vi2.set y (a : Int)) (ds2.set y d) qd2 u11 q2 w6) := ⟨T2, HQ6.out, HT6.out, HSB2.out.1.set y, HSB2.out.2⟩
                      clear hz HRX HZ HQ6 HT6 HSB2 HTQ HNS
                      go_wp2
                      go_roundw
                      case rel => exact ⟨j + 1, _, _, _, _, q2, od3, by omega, by go_num, HS6, HI6⟩
                      case measure => simp [intOf]; omega
                    · have hzb : (zq != W) = true := by rw [bne_iff_ne]; exact hz
                      have HI6 : Hid (CIn s sink bl pt W m0 v hh (j + 1) (sn2.set y W) (vi2.set y (a : Int)) (ds2.set y d) (qd2.set y W) (q2 ++ [y]) od3) := HRX.out (q2 ++ [y]) (qd2.set y W) (.inr ⟨fun hc => hz (HZ.out.2 hc), rfl, rfl⟩)
                      have HQ7 : Hid (FinQ (w6.setCell ⟨s.bQueued, y, none⟩ (.int .u32 W)) T2 (s.searchC W (sn2.set y W) (vi2.set y (a : Int)) (ds2.set y d) (qd2.set y W) u11 q2) s.vQueue) := HQ6.out.setQueued y W
                      have HT7 : Hid (Step augCT w T (w6.setCell ⟨s.bQueued, y, none⟩ (.int .u32 W)) T2) := HT6.out.set (b := s.bQueued) (by rw [HTQ.out]; exact .inl rfl) _
                      clear hz HRX HZ HQ6 HT6 HTQ HNS
                      go_upto_region 24 with fail
                      generalize w6.setCell ⟨s.bQueued, y, none⟩ (.int .u32 W) = w7 at *
                      clear c13 cqy1 cqy2 hzb
                      obtain ⟨ao5, c5, hv5⟩ := HQ7.out.queueV
                      have hv5' : u11 = .slice ao5 q2.length c5 := by have h := hv5; simp only [FV.searchC, List.length_map] at h; exact h
                      have ra5 : w7.ownsRow 0 21 1 (.slice ao5 q2.length c5) q2.length ((q2.map Int.ofNat).map (.int .i32)) := by
                        have h := HQ7.out.row13
                        rw [hv5] at h
                        simp only [FV.searchC, List.length_map] at h
                        exact h
                      subst hv5'
                      go_wp2_with (at_builtin; refine wpList_append_lies _ rfl _ _ _ rfl 0 21 i0 _ 1 4 Try.underlying45 hi0 hz0 hz1 hz2 rfl (by omega) (.slice ao5 q2.length c5) q2.length ((q2.map Int.ofNat).map (.int .i32)) rfl (ra5.alloc _) ⟨w7.heap.size, 0, none⟩ 1 1 [.int .i32 y] rfl rfl (World.news_of_block (cs := #[.int .i32 y]) (t := 21) (fr := (0, 0)) (heap_alloc_new w7 _)) (by simp [Value.oneCell']) (by omega) (by unfold maxLen; omega) (by omega) (Nat.zero_le _) (w7.heap.size + 1) (by simp) ?_; intro g6 cap6 x6 hown6 hgrow6 hat6 hlt6)
                      have hlq : (s.searchC W (sn2.set y W) (vi2.set y (a : Int)) (ds2.set y d) (qd2.set y W) (.slice ao5 q2.length c5) q2).queue.length = q2.length := by simp [FV.searchC]
                      have hpq := HQ7.out.pushQ (x := (y : Int)) (gg := g6) (cap := cap6) (below_laid w7 _) (by rw [hlq]; exact hown6) hgrow6 hat6 (by simp) hlt6
                      rw [hlq] at hpq
                      have HS6 : Hid (SQC w T s W (sn2.set y W) (vi2.set y (a : Int)) (ds2.set y d) (qd2.set y W) (.slice (some ⟨g6, 0, none⟩) (q2.length + 1) cap6) (q2 ++ [y]) x6) := by
                        refine ⟨retag T2 g6 13, ?_, HT7.out.trans (hpq.2.mono fun _ => augCT_of), HSB2.out.1.set y, HSB2.out.2.set y⟩
                        have e : s.searchC W (sn2.set y W) (vi2.set y (a : Int)) (ds2.set y d) (qd2.set y W) (.slice (some ⟨g6, 0, none⟩) (q2.length + 1) cap6) (q2 ++ [y]) = (s.searchC W (sn2.set y W) (vi2.set y (a : Int)) (ds2.set y d) (qd2.set y W) (.slice ao5 q2.length c5) q2).pushQ (y : Int) (.slice (some ⟨g6, 0, none⟩) (q2.length + 1) cap6) := by
                          simp [FV.searchC, FV.pushQ]
                        rw [e]; exact hpq.1
                      clear hpq hlq hown6 hgrow6 hat6 hlt6 ra5 hv5 HQ7 HT7 HSB2
                      go_wp2
                      go_roundw
                      case rel => exact ⟨j + 1, _, _, _, _, q2 ++ [y], od3, by omega, by go_num, HS6, HI6⟩
                      case measure => simp [intOf]; omega
          · have HL5 : Hid (COut s sink bl pt W sn2 vi2 ds2 qd2 q2 od2 (hh + 1) ∧ (q2.length : Int) + phi ds2 od2 (2 * s.n + 1) ≤ m0 ∧ 0 ≤ phi ds2 od2 (2 * s.n + 1) ∧ hh + 1 ≤ q2.length ∧ q2.length ≤ 263170) := by
              obtain ⟨tm2, k2, hsi, hvo, hvp, hmu⟩ := HI.out
              have hjj : j = (s.row v).length := by omega
              subst hjj
              have hsi2 := SI.rowDone (nodes := s.nodes) hsi HNW.out
              exact ⟨⟨tm2, k2, hsi2⟩, hmu, hsi2.phi0 HP.out, hsi2.pq, hsi2.qlen HP.out⟩
            have hb2 := HL5.out.2.2.2
            clear HI
            go_wp2
            go_roundg (q2.length + (phi ds2 od2 (2 * s.n + 1)).toNat - (hh + 1))
            case rel => exact ⟨hh + 1, sn2, vi2, ds2, qd2, q2, od2, rfl, by omega, by go_num, HS2, HL5.out.1⟩
            case measure =>
              have h1 := HM0.out
              have h2 := HL5.out
              omega
    · have hhe : hh = q.length := by omega
      subst hhe
      have HE : Hid (SI s.n sink bl W s.arcs pt sn vi ds qd q od tm k q.length NoEx) := hsi
      have HSN : Hid (sn.getD sink 0 = W ↔ sink ∈ od) := by
        show _ ↔ _
        rw [← hsi.seen sink (by omega), List.getElem?_eq_getElem (by rw [hsi.snl]; omega), List.getD_eq_getElem?_getD, List.getElem?_eq_getElem (by rw [hsi.snl]; omega)]
        simp
      have HSG : Hid (sn[sink]? = some (sn.getD sink 0)) := by
        show _ = _
        rw [List.getD_eq_getElem?_getD, List.getElem?_eq_getElem (by rw [hsi.snl]; omega)]
        rfl
      have c16 : wr.cell? ⟨s.F, 16, none⟩ = some s.vQueue := hq1.f16
      have f16 : wr.frozen? ⟨s.F, 16, none⟩ = false := hq1.ff 16
      have HCL : Hid (FinAt (wr.setCell ⟨s.F, 16, none⟩ (.slice ao q.length cq)) T1 (s.searchC W sn vi ds qd (.slice ao q.length cq) q)) := hq1.close
      have tF1 : T1 s.F = 1 := hq1.tags.1
      have HST : Hid (Step augCT w T (wr.setCell ⟨s.F, 16, none⟩ (.slice ao q.length cq)) T1) := st1.set (b := s.F) (by rw [tF1]; exact augCT_of (.inl rfl)) _
      have HSB : Hid (SnB W sn ∧ SnB W qd) := ⟨hsb1, hqb1⟩
      clear hq1 st1 hsb1 hqb1 HL HS tF1 hsi hgk hph
      go_upto_region 27 with fail
      generalize wr.setCell ⟨s.F, 16, none⟩ (.slice ao q.length cq) = w9 at *
      obtain ⟨y0, hy0⟩ : ∃ z, sn.getD sink 0 = z := ⟨_, rfl⟩
      have cse : w9.cell? ⟨s.bSeen, sink, none⟩ = some (.int .u32 y0) := HCL.out.seenC (by rw [← hy0]; exact HSG.out)
      have HSN' : Hid (y0 = W ↔ sink ∈ od) := by show _ ↔ _; rw [← hy0]; exact HSN.out
      clear c16 f16 HSN HSG hy0
      by_cases hin : sink ∈ od
      · have hbne : (y0 != W) = false := by simp [HSN'.out.2 hin]
        obtain ⟨ns, ar, hwy⟩ := HE.out.way hin
        have hpos : 0 < s.arcs.length := by
          obtain ⟨a, _, _, h1, _⟩ := HE.out.tree sink hin (by omega)
          omega
        obtain ⟨g, rfl⟩ := HGA.out hpos
        have hns : ns.length ≤ 2 * s.n + 1 := nodup_len hwy.bw.nd (fun z hz => HE.out.lt z (hwy.nsod z hz).1)
        have har : ar.length ≤ 2 * s.n := by have := hwy.bw.len; omega
        have HWY : Hid (Wy s.n sink s.arcs pt vi ds od ns ar) := hwy
        have HIN : Hid (sink ∈ od) := hin
        have HVI : Hid (vi.length = 2 * s.n + 1) := HE.out.vil
        clear hpos hns hwy hin HSN'
        go_wp2
        go_loopw [19] (fun v19 wr => ∃ (k x : Nat) (vt : Value) (T3 : Nat → Nat), k ≤ ar.length ∧ v19 = .int .i32 x ∧ Hid (ns[k]? = some x) ∧ Hid (FinAt wr T3 ((s.searchC W sn vi ds qd (.slice ao q.length cq) q).pushedAll (ar.take k) vt)) ∧ Hid (Step augCT w T wr T3)) (fun c _ => ar.length - ns.idxOf (intOf c).toNat)
        case atStart =>
          refine ⟨0, sink, s.vTouched, T1, Nat.zero_le _, rfl, HWY.out.bw.hd, ?_, HST⟩
          rw [List.take_zero]
          show Hid (FinAt w9 T1 ((s.searchC W sn vi ds qd (.slice ao q.length cq) q).pushedAll [] (s.searchC W sn vi ds qd (.slice ao q.length cq) q).vTouched))
          rw [FV.pushedAll_nil]
          exact HCL
        case round =>
          obtain ⟨k3, x, vt, T3, hk, rfl, HX, HF3, HT3⟩ := hrel
          clear HCL HST cse hbne
          by_cases hkl : k3 < ar.length
          · obtain ⟨a, hak⟩ : ∃ a, ar[k3]? = some a := ⟨_, List.getElem?_eq_getElem hkl⟩
            obtain ⟨u, y, a1, a2, a3, a4, a5, a6, a7⟩ := HWY.out.bw.arc k3 a hak
            have hux : x = u := by have h := HX.out; rw [h] at a1; injection a1
            subst hux
            have hxs : ¬ x = 2 * s.n := fun e => by
              have h := HX.out
              rw [e] at h
              have := nodup_at HWY.out.bw.nd h HWY.out.bw.last
              omega
            have hxb : ((x : Int) != 2 * (s.n : Int)) = true := by rw [bne_iff_ne]; omega
            have hul : x < 2 * s.n + 1 := by rw [← HVI.out]; exact (List.getElem?_eq_some_iff.1 a3).1
            have cv : wr.cell? ⟨s.bVia, x, none⟩ = some (.int .i32 (a : Int)) := HF3.out.viaC (x := x) a3
            have hrm := HWY.out.bw.rm HRM.out HNW.out.even k3 hk
            have hatw := HNW.out.twin_lt a4
            have hxo : bits .xor .i32 (a : Int) 1 = (twin a : Int) := bits_twin a (by omega)
            have hpush := push_any HF3.out a (by show a < (pushAll s.arcs (ar.take k3)).length; rw [pushAll_len]; exact a4) (by show twin a < (pushAll s.arcs (ar.take k3)).length; rw [pushAll_len]; exact hatw) (by show (pushAll s.arcs (ar.take k3)).length ≤ _; rw [pushAll_len]; omega)
              (by show (s.touched ++ _).length ≤ _; rw [List.length_append, touch_len, List.length_take]; omega) (hrm.lo a) (hrm.hi a) (hrm.lo _) (hrm.hi _)
            have HPU : Hid (Calls Try.prog 60 #[.pointer (some ⟨s.F, 0, none⟩), .int .i32 (a : Int)] wr fun e w' => PushR wr T3 ((s.searchC W sn vi ds qd (.slice ao q.length cq) q).pushedAll (ar.take k3) vt) a e w') := hpush
            have HAK : Hid (ar[k3]? = some a) := hak
            have HA2 : Hid (ns[k3 + 1]? = some y) := a2
            have HA3 : Hid (vi[x]? = some (a : Int)) := a3
            have HA6 : Hid (toAt s.arcs (twin a) = (y : Int)) := a6
            obtain ⟨b, hb⟩ : ∃ b, twin a = b := ⟨_, rfl⟩
            have HBT : Hid (twin a = b) := hb
            rw [hb] at hxo hatw
            clear hpush hrm hak a1 a2 a3 a5 a6 a7 hxs HF3 hb
            go_wp2_with fail
            refine HPU.out.mono ?_
            rintro e w10 ⟨rfl, T4, v4, hF4, hS4⟩
            have HF4 : Hid (FinAt w10 T4 ((s.searchC W sn vi ds qd (.slice ao q.length cq) q).pushedAll (ar.take (k3 + 1)) v4)) := by
              show FinAt _ _ _
              rw [take_snoc HAK.out, ← FV.pushedAll_snoc _ _ vt]
              exact hF4
            have HT4 : Hid (Step augCT w T w10 T4) := HT3.out.trans (hS4.mono fun _ => augCT_of)
            have cv4 : w10.cell? ⟨s.bVia, x, none⟩ = some (.int .i32 (a : Int)) := HF4.out.viaC (x := x) HA3.out
            have ct4 : w10.cell? ⟨g, b * 4, none⟩ = some (.int .i32 (y : Int)) := by
              have h := HF4.out.arcTo (g := g) (c := c) (a := b) (m := s.arcs.length) HV.out (pushAll_len _ _) (by show b < (pushAll s.arcs (ar.take (k3 + 1))).length; rw [pushAll_len]; exact hatw)
              rw [h]
              show some (Value.int .i32 (toAt (pushAll s.arcs (ar.take (k3 + 1))) b)) = _
              rw [toAt_pushAll, ← HBT.out, HA6.out]
            clear hF4 hS4 HPU HT3 cv
            go_wp2
            go_roundw
            case rel => exact ⟨k3 + 1, y, v4, T4, hkl, rfl, HA2, HF4, HT4⟩
            case measure =>
              have e1 := idxOf_at HWY.out.bw.nd HX.out
              have e2 := idxOf_at HWY.out.bw.nd HA2.out
              simp only [intOf, Int.toNat_natCast]
              rw [e1, e2]; omega
          · have hke : k3 = ar.length := by omega
            subst hke
            have hxs : x = 2 * s.n := by have h := HX.out; rw [HWY.out.bw.last] at h; injection h with h; exact h.symm
            have hxb : ((x : Int) != 2 * (s.n : Int)) = false := by rw [hxs]; simp
            have HEND : Hid (AugCR w T s sink bl pt (.returned (.bool true)) wr) := by
              refine ⟨true, T3, _, rfl, HF3.out, HT3.out, sn, vi, ds, qd, .slice ao q.length cq, q, od, tm, k, ?_⟩
              rw [HWE.out]
              exact ⟨HSB.out.1, HSB.out.2, HE.out, .inr ⟨rfl, HIN.out, vt, ns, ar, by rw [List.take_length], HWY.out⟩⟩
            clear HF3 HT3 hxs
            go_wp2
            go_ret
            exact HEND.out
      · have hbne : (y0 != W) = true := by rw [bne_iff_ne]; exact fun e => hin (HSN'.out.1 e)
        have HEND : Hid (AugCR w T s sink bl pt (.returned (.bool false)) w9) := by
          refine ⟨false, T1, _, rfl, HCL.out, HST.out, sn, vi, ds, qd, .slice ao q.length cq, q, od, tm, k, ?_⟩
          rw [HWE.out]
          exact ⟨HSB.out.1, HSB.out.2, HE.out, .inl ⟨rfl, hin, rfl⟩⟩
        clear HE HCL HST HSB HSN' hin
        go_wp2
        go_ret
        exact HEND.out
end Go.Proofs.Qxb6605292a
