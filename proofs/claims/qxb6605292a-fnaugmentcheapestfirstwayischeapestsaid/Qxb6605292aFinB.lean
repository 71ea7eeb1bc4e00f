/-
  finder (f41): the walk.
-/
import Derived.Test.Qxb6605292aFinC
namespace Go.Proofs.Qxb6605292a
open Go.RowKit

/-- What finder leaves: the network of the generals left, in its part of memory. -/
def FinderR (w : World) (T : Nat → Nat) (G n : Nat) (lk : Bool) (rows : List (List Int)) (pre : Option FV) (ws : List Int) (i : Nat) (e : Ending) (w' : World) : Prop :=
  ∃ s m, e = .returned (ptr0 s.F) ∧ s.G = G ∧ s.n = n ∧ Init pre s ∧ FinS w T lk rows s m w' ∧ m.out = outL n ws i ∧
    (m.nodes, m.arcs) = netOf (2 * n + 1) (finPairs (outL n ws i) (reachL n lk rows) n) ∧ m.touched = [] ∧ m.vBlocked = .slice none 0 0 ∧
    ∀ v, v < n → isOut (outL n ws i) v = false → m.source[v]? = some ((2 * ((linkPairs (outL n ws i) (reachL n lk rows) n).length + (srcPairs (outL n ws i) n v).length) : Nat) : Int)

set_option maxRecDepth 100000 in
set_option maxHeartbeats 8000000 in
theorem finder_any {w : World} {T : Nat → Nat} {G n : Nat} {lk : Bool} {rows : List (List Int)} {pre : Option FV} (h : Start w T G n lk rows pre) (ao : Option Addr) (wcap : Nat) (ws : List Int) (i : Nat) (hn : n ≤ 256) (hn0 : 1 ≤ n)
    (c0 : w.cell? ⟨G, 0, none⟩ = some (.int .i64 n)) (hss : ∀ r ∈ rows, r.length ≤ 1048576) (hi : i < n)
    (hws : KSl .i64 w (.slice ao ws.length wcap) ws) (hlow : ∀ b off, ao = some ⟨b, off, none⟩ → T b = 0) (hwin : inR n ws = true) (hlok : linksOk n lk rows = true)
    (hbnd : (finPairs (outL n ws i) (reachL n lk rows) n).length ≤ 400000) :
    Calls Try.prog 41 #[ptr0 G, .slice ao ws.length wcap, .int .i64 i] w fun e w' => FinderR w T G n lk rows pre ws i e w' := by
  have HS : Hid (Start w T G n lk rows pre) := h
  clear h
  have hf : Hid (∀ w, Start w T G n lk rows pre → Calls Try.prog 57 #[.pointer (some ⟨G, 0, none⟩)] w fun e w' => FindsR w T G n lk rows pre e w') := fun w h => finds_any h
  have hw1 : IntKind.i64.wrap (2 * (n : Int)) = 2 * n := by rw [IntKind.wrap_i64]; omega
  have hw2 : IntKind.i64.wrap (2 * (n : Int) + 1) = 2 * n + 1 := by rw [IntKind.wrap_i64]; omega
  have HSS : Hid (∀ r ∈ rows, r.length ≤ 1048576) := hss
  have HWS : Hid (KSl .i64 w (.slice ao ws.length wcap) ws) := hws
  have HLO : Hid (∀ b off, ao = some ⟨b, off, none⟩ → T b = 0) := hlow
  have HWI : Hid (inR n ws = true) := hwin
  have HLK : Hid (linksOk n lk rows = true) := hlok
  have HBN : Hid ((finPairs (outL n ws i) (reachL n lk rows) n).length ≤ 400000) := hbnd
  have hwl : ws.length ≤ 9223372036854775807 := by obtain ⟨_, _, _, hm, _⟩ := hws; unfold maxLen at hm; omega
  clear hss hws hlow hwin hlok hbnd
  unfold ptr0
  go_enter Try.func41, Try.ntmps41
  go_upto_if 26 with (go_at_call 57; refine (hf.out _ HS.out).mono ?_; rintro e w1 ⟨R, fp, T1, rfl, c4, c5, hmid, st⟩; unfold ptr0 at *)
  go_cut [8] (fun v wc => Hid (FX w T G n lk rows pre v wc))
  case first =>
    cases pre with
    | some s =>
      obtain ⟨rfl, hg, e1, e2, e3⟩ := hmid
      have HX : Hid (FX w T G n lk rows (some s) (.pointer (some ⟨s.F, 0, none⟩)) w1) := ⟨T1, s, rfl, hg, e1, e2, st, rfl⟩
      clear hg e1 e2 e3 st
      go_wp2
      go_meet
      case rel => exact HX
    | none =>
      obtain ⟨rfl, nb, m1, m2, ho, hnb, hlow⟩ := hmid
      go_upto_region 4 with fail
      refine wp_region_noPanic ?_
      refine wp_region_any (by kernel_rfl) ?_
      refine wpAny_takes (f := 12) (by kernel_rfl) (fun _ _ _ _ _ h => h) [0, 1, 3, 4, 5, 7, 9, 11, 13, 14, 15, 17, 18, 19, 21, 22, 23, 25, 26, 27] _ _ (by kernel_rfl) ?_
      simp only [List.map_cons, List.map_nil, List.getElem?_toArray, List.getElem?_cons_succ, List.getElem?_cons_zero]
      iterate 20
        refine wpP_take (v := ?_) (by rfl) ?_ ?_
        rotate_left 1
        focus (intro w; go_simp; try with_reducible rfl)
        simp only [Act.put, List.setIfInBounds_toArray, List.set_cons_zero, List.set_cons_succ]
      refine wpAny_makes (T := T1) (A := A15 G n nb R m1 m2) (n := n) (by kernel_rfl) (by simp only [foldPut, mkDs, Act.put, List.setIfInBounds_toArray, List.set_cons_zero, List.set_cons_succ]) ?_ ?_ ho.drew (fun i hi => by simp only [mkIdx, List.mem_cons, List.not_mem_nil, or_false] at hi; rcases hi with rfl | rfl | rfl | rfl | rfl | rfl | rfl | rfl | rfl <;> rfl) hn ?_
      · intro i hi
        simp only [mkIdx, List.mem_cons, List.not_mem_nil, or_false] at hi
        rcases hi with rfl | rfl | rfl | rfl | rfl | rfl | rfl | rfl | rfl <;> exact ⟨_, rfl, rfl, rfl, rfl⟩
      · intro i hi
        simp only [mkIdx, List.mem_cons, List.not_mem_nil, or_false] at hi
        rcases hi with rfl | rfl | rfl | rfl | rfl | rfl | rfl | rfl | rfl <;> simp [Act.eval, mkSrc, mkSz]
      · intro B T2 w2 ho2 st2
        refine wpAny_tail (by kernel_rfl) (fun _ _ _ _ _ h => h) (eff := [30]) (steps := [29, 30, 31]) (by decide) (by kernel_rfl) ?_
        simp only [List.map_cons, List.map_nil, List.getElem?_toArray, List.getElem?_cons_succ, List.getElem?_cons_zero]
        simp only [foldPut, mkDs, at0, mkSz, Act.put, List.setIfInBounds_toArray, List.set_cons_zero, List.set_cons_succ]
        refine wpT_take (v := ?_) (by rfl) (by rfl) ?_ ?_
        rotate_left 1
        focus (intro w; go_simp; try with_reducible rfl)
        simp only [Act.put, List.setIfInBounds_toArray, List.set_cons_zero, List.set_cons_succ]
        refine wpT_eff (by rfl) (fun K hK => ?_)
        go_simp
        refine hK _ _ (fun _ => trivial) ?_
        clear hK K
        try simp only [Act.put, List.setIfInBounds_toArray, List.set_cons_zero, List.set_cons_succ]
        refine wpT_take (v := ?_) (by rfl) (by rfl) ?_ ?_
        rotate_left 1
        focus (intro w; go_simp; try with_reducible rfl)
        simp only [Act.put, List.setIfInBounds_toArray, List.set_cons_zero, List.set_cons_succ]
        refine wpT_nil ?_
        refine NoPanic.normal ?_
        have e14 : AD (A15 G n nb R m1 m2) n B mkIdx 14 = some (G, 83, grp1 n nb R) := by rw [AD_other (by decide)]; rfl
        have e15 : AD (A15 G n nb R m1 m2) n B mkIdx 15 = some (R, 87, rec1 m1 m2) := by rw [AD_other (by decide)]; rfl
        have hG1 : G < w1.heap.size := ho.lt (t := 14) (e := 83) (l := grp1 n nb R) rfl
        have HX : Hid (FX w T G n lk rows none (.pointer (some ⟨w2.heap.size, 0, none⟩)) ((w2.alloc (.cells (FV.fresh G w2.heap.size R n nb m1 m2 B).fields.toArray 73)).setCell ⟨R, 4, none⟩ (.pointer (some ⟨w2.heap.size, 0, none⟩)))) :=
          fresh_done ho2 (st.drew.trans st2) (hnb.later ((Below.refl _ _).drew.trans (st2.below (Nat.le_of_lt hG1) (fun i hi hh => hh (hlow i hi))))) (fun b hb => by rw [st2.tags b (by show b < w1.heap.size; omega)]; exact hlow b hb)
        have k5 : ∀ o, (w2.alloc o).cell? ⟨G, 5, none⟩ = some (.pointer (some ⟨R, 0, none⟩)) := fun o => ((ho2.arr _ _ _ _ e14).2.alloc o).at rfl
        have k4 : ∀ o, (w2.alloc o).cell? ⟨R, 4, none⟩ = some (.pointer none) := fun o => ((ho2.arr _ _ _ _ e15).2.alloc o).at rfl
        have kf : ∀ o, (w2.alloc o).frozen? ⟨R, 4, none⟩ = false := fun o => ((ho2.arr _ _ _ _ e15).2.alloc o).frozen 4
        clear ho2 st2 st ho hnb hlow c4 c5 e14 e15 hG1
        go_wp2
        go_meet
        case rel => exact HX
  case rest =>
    obtain ⟨T1, s, rfl, hg, eG, en, st, hinit⟩ := hcut.out
    subst eG en
    have A0 : Hid (FinS w T lk rows s s.part wc) := ⟨T1, hg, st⟩
    have HIN : Hid (Init pre s) := hinit
    clear hg st hinit hcut hf HS c0
    unfold ptr0
    have hcl := A0.out.clr' (by omega)
    have g1 := A0.out.f1
    go_upto_region 7 with fail
    obtain ⟨m0, M0, A1⟩ : ∃ m0 : FM, Hid (m0.out = List.replicate s.n false) ∧ Hid (FinS w T lk rows s m0 (wc.setRow s.bOut (Array.replicate s.n (Value.bool false)))) := ⟨{ s.part with out := List.replicate s.n false }, rfl, A0.out.clearOut'⟩
    clear hcl g1 A0
    generalize wc.setRow s.bOut (Array.replicate s.n (Value.bool false)) = w2 at *
    have g2 := A1.out.f2
    have hV : s.V ≤ 513 := by unfold FV.V; omega
    go_wp2
    clear g2
    go_loopw [74] (fun c wr => ∃ (k : Nat) (m : FM), k ≤ s.V ∧ c = .int .i64 k ∧ Hid (FinS w T lk rows s m wr) ∧ Hid (m.out = List.replicate s.n false) ∧ Hid (∀ x, x < k → m.nodes.getD x [] = [])) (fun c _ => s.V - (intOf c).toNat)
    case atStart => exact ⟨0, m0, Nat.zero_le _, rfl, A1, M0, fun x hx => absurd hx (Nat.not_lt_zero _)⟩
    case round =>
      obtain ⟨k, m, hk, rfl, A, M, N⟩ := hrel
      clear A1 M0 m0
      by_cases hlt : k < s.V
      · have g2 := A.out.f2
        obtain ⟨na, nc, hna, gn, fn⟩ := A.out.node hlt
        have HNA : Hid _ := hna
        clear hna
        have neF := A.out.neF.1
        have neF' : s.bNodes ≠ s.F := Ne.symm neF
        go_upto_region 10 with fail
        refine wp_region_noPanic ?_
        refine wp_region_T (fun w' => w'.cell? ⟨s.F, 2, none⟩ = some (.slice (some ⟨s.bNodes, 0, none⟩) s.V s.V) ∧ w'.cell? ⟨s.bNodes, k, none⟩ = some (.slice na ((s.put m).row k).length nc))
          [3, 8, 11] [14] [0, 1, 2, 3, 4, 5, 6, 7, 8, 9, 10, 11, 12, 13, 14] (by kernel_rfl) (by kernel_rfl) rfl (by kernel_rfl) (fun _ _ _ _ _ h => h) ⟨g2, gn⟩ ?_
        simp only [List.map_cons, List.map_nil, List.getElem?_toArray, List.getElem?_cons_succ, List.getElem?_cons_zero]
        iterate 3
          refine wpT_take (v := ?_) (by rfl) (by rfl) ?_ ?_
          rotate_left 1
          focus (intro w; go_simp; try with_reducible rfl)
          simp only [Act.put, List.setIfInBounds_toArray, List.set_cons_zero, List.set_cons_succ]
        refine wpT_held (v := ?_) (by rfl) (by rfl) (by rfl) ?_ ?_
        rotate_left 1
        focus (rintro w ⟨s1, s2⟩; go_simp; try with_reducible rfl)
        simp only [Act.put, List.setIfInBounds_toArray, List.set_cons_zero, List.set_cons_succ]
        iterate 4
          refine wpT_take (v := ?_) (by rfl) (by rfl) ?_ ?_
          rotate_left 1
          focus (intro w; go_simp; try with_reducible rfl)
          simp only [Act.put, List.setIfInBounds_toArray, List.set_cons_zero, List.set_cons_succ]
        refine wpT_held (v := ?_) (by rfl) (by rfl) (by rfl) ?_ ?_
        rotate_left 1
        focus (rintro w ⟨s1, s2⟩; go_simp; try with_reducible rfl)
        simp only [Act.put, List.setIfInBounds_toArray, List.set_cons_zero, List.set_cons_succ]
        iterate 2
          refine wpT_take (v := ?_) (by rfl) (by rfl) ?_ ?_
          rotate_left 1
          focus (intro w; go_simp; try with_reducible rfl)
          simp only [Act.put, List.setIfInBounds_toArray, List.set_cons_zero, List.set_cons_succ]
        refine wpT_held (v := ?_) (by rfl) (by rfl) (by rfl) ?_ ?_
        rotate_left 1
        focus (rintro w ⟨s1, s2⟩; go_simp; try with_reducible rfl)
        simp only [Act.put, List.setIfInBounds_toArray, List.set_cons_zero, List.set_cons_succ]
        iterate 2
          refine wpT_take (v := ?_) (by rfl) (by rfl) ?_ ?_
          rotate_left 1
          focus (intro w; go_simp; try with_reducible rfl)
          simp only [Act.put, List.setIfInBounds_toArray, List.set_cons_zero, List.set_cons_succ]
        refine wpT_last (by rfl) (by kernel_rfl) (fun K hK => ?_)
        go_simp
        refine hK _ _ ?_
        clear hK K
        try simp only [Act.put, List.setIfInBounds_toArray, List.set_cons_zero, List.set_cons_succ]
        refine wpT_nil ?_
        refine NoPanic.normal ?_
        have A' : Hid (FinS w T lk rows s { m with vNodes := m.vNodes.set k (.slice na 0 nc), nodes := m.nodes.set k [] } (wr.setCell ⟨s.bNodes, k, none⟩ (.slice na 0 nc)).drew) := (A.out.cutRow HNA.out).drew
        have N' : Hid (∀ x, x < k + 1 → (m.nodes.set k []).getD x [] = []) := fun x hx => by
          by_cases e : k = x
          · subst e
            by_cases hl : k < m.nodes.length
            · simp [hl]
            · simp [hl]
          · have := N.out x (by omega)
            simp only [List.getD_eq_getElem?_getD] at this ⊢
            rw [List.getElem?_set_ne e]; exact this
        clear g2 gn fn neF neF' HNA N
        go_wp2
        go_roundw
        case rel => exact ⟨k + 1, _, by omega, by go_num, A', M, N'⟩
        case measure => simp [intOf]; omega
      · have hN : Hid (m.nodes = List.replicate s.V []) := by
          have hl : m.nodes.length = s.V := A.out.len.nodes
          have h := N.out
          have hk' : k = s.V := by omega
          apply List.ext_getElem?
          intro x
          by_cases hx : x < s.V
          · have := h x (by omega)
            simp only [List.getD_eq_getElem?_getD] at this
            rw [List.getElem?_eq_getElem (by omega)] at this ⊢
            simp at this
            rw [this]; simp [hx]
          · rw [List.getElem?_eq_none (by omega), List.getElem?_eq_none (by simp; omega)]
        clear N
        obtain ⟨a3, k3, e3, g3⟩ := A.out.f3
        obtain ⟨a5, k5, e5, g5⟩ := A.out.f5
        have E3 : Hid _ := e3
        have E5 : Hid _ := e5
        have g6 := A.out.f6
        have ff := A.out.ff
        clear e3 e5
        go_upto_region 12 with fail
        refine wp_region_noPanic ?_
        refine wp_region_T (fun w' => w'.cell? ⟨s.F, 3, none⟩ = some (.slice a3 m.arcs.length k3) ∧ w'.cell? ⟨s.F, 5, none⟩ = some (.slice a5 m.touched.length k5))
          [6, 11] [15, 18, 21] [0, 1, 2, 3, 4, 5, 6, 7, 8, 9, 10, 11, 12, 13, 14, 15, 16, 17, 18, 19, 20, 21] (by kernel_rfl) (by kernel_rfl) rfl (by kernel_rfl) (fun _ _ _ _ _ h => h) ⟨g3, g5⟩ ?_
        simp only [List.map_cons, List.map_nil, List.getElem?_toArray, List.getElem?_cons_succ, List.getElem?_cons_zero]
        iterate 6
          refine wpT_take (v := ?_) (by rfl) (by rfl) ?_ ?_
          rotate_left 1
          focus (intro w; go_simp; try with_reducible rfl)
          simp only [Act.put, List.setIfInBounds_toArray, List.set_cons_zero, List.set_cons_succ]
        refine wpT_held (v := ?_) (by rfl) (by rfl) (by rfl) ?_ ?_
        rotate_left 1
        focus (rintro w ⟨s1, s2⟩; go_simp; try with_reducible rfl)
        simp only [Act.put, List.setIfInBounds_toArray, List.set_cons_zero, List.set_cons_succ]
        iterate 4
          refine wpT_take (v := ?_) (by rfl) (by rfl) ?_ ?_
          rotate_left 1
          focus (intro w; go_simp; try with_reducible rfl)
          simp only [Act.put, List.setIfInBounds_toArray, List.set_cons_zero, List.set_cons_succ]
        refine wpT_held (v := ?_) (by rfl) (by rfl) (by rfl) ?_ ?_
        rotate_left 1
        focus (rintro w ⟨s1, s2⟩; go_simp; try with_reducible rfl)
        simp only [Act.put, List.setIfInBounds_toArray, List.set_cons_zero, List.set_cons_succ]
        iterate 3
          refine wpT_take (v := ?_) (by rfl) (by rfl) ?_ ?_
          rotate_left 1
          focus (intro w; go_simp; try with_reducible rfl)
          simp only [Act.put, List.setIfInBounds_toArray, List.set_cons_zero, List.set_cons_succ]
        refine wpT_last (by rfl) (by kernel_rfl) (fun K hK => ?_)
        go_simp
        refine hK _ _ ?_
        clear hK K
        try simp only [Act.put, List.setIfInBounds_toArray, List.set_cons_zero, List.set_cons_succ]
        iterate 2
          refine wpT_take (v := ?_) (by rfl) (by rfl) ?_ ?_
          rotate_left 1
          focus (intro w; go_simp; try with_reducible rfl)
          simp only [Act.put, List.setIfInBounds_toArray, List.set_cons_zero, List.set_cons_succ]
        refine wpT_last (by rfl) (by kernel_rfl) (fun K hK => ?_)
        go_simp
        refine hK _ _ ?_
        clear hK K
        try simp only [Act.put, List.setIfInBounds_toArray, List.set_cons_zero, List.set_cons_succ]
        iterate 2
          refine wpT_take (v := ?_) (by rfl) (by rfl) ?_ ?_
          rotate_left 1
          focus (intro w; go_simp; try with_reducible rfl)
          simp only [Act.put, List.setIfInBounds_toArray, List.set_cons_zero, List.set_cons_succ]
        refine wpT_last (by rfl) (by kernel_rfl) (fun K hK => ?_)
        go_simp
        refine hK _ _ ?_
        clear hK K
        try simp only [Act.put, List.setIfInBounds_toArray, List.set_cons_zero, List.set_cons_succ]
        refine wpT_nil ?_
        refine NoPanic.normal ?_
        obtain ⟨m2, M2, A2⟩ : ∃ m2 : FM, Hid (m2.out = List.replicate s.n false ∧ m2.nodes = List.replicate s.V [] ∧ m2.arcs = [] ∧ m2.touched = [] ∧ m2.vBlocked = .slice none 0 0) ∧ Hid (FinS w T lk rows s m2 (((wr.setCell ⟨s.F, 3, none⟩ (.slice a3 0 k3)).setCell ⟨s.F, 5, none⟩ (.slice a5 0 k5)).setCell ⟨s.F, 6, none⟩ (.slice none 0 0)).drew) :=
          ⟨{ m with vArcs := .slice a3 0 k3, arcs := [], vTouched := .slice a5 0 k5, touched := [], vBlocked := .slice none 0 0 }, ⟨M.out, hN.out, rfl, rfl, rfl⟩, (((A.out.cutArcs E3.out).cutTouched E5.out).setBlocked (.slice none 0 0)).drew⟩
        clear E3 E5 g3 g5 g6 ff A M hN hlt hk
        generalize (((wr.setCell ⟨s.F, 3, none⟩ (.slice a3 0 k3)).setCell ⟨s.F, 5, none⟩ (.slice a5 0 k5)).setCell ⟨s.F, 6, none⟩ (.slice none 0 0)).drew = w3 at *
        go_wp2
        go_loopw [113] (fun c wr => ∃ (k : Nat) (m : FM), k ≤ ws.length ∧ c = .int .i64 k ∧ Hid (FinS w T lk rows s m wr) ∧ Hid (m.out = markAll (List.replicate s.n false) (ws.take k) ∧ m.nodes = List.replicate s.V [] ∧ m.arcs = [] ∧ m.touched = [] ∧ m.vBlocked = .slice none 0 0)) (fun c _ => ws.length - (intOf c).toNat)
        case atStart => exact ⟨0, m2, Nat.zero_le _, rfl, A2, M2⟩
        case round =>
          obtain ⟨k, m, hk, rfl, A, M⟩ := hrel
          clear A2 M2
          have g1 := A.out.f1
          by_cases hlt : k < ws.length
          · obtain ⟨z, hz⟩ : ∃ z : Nat, ws[k] = (z : Int) := Int.eq_ofNat_of_zero_le (inR_get HWI.out hlt).1
            have hzn : z < s.n := by have := (inR_get HWI.out hlt).2; omega
            obtain ⟨b, off, rfl, gw⟩ : ∃ b off, ao = some ⟨b, off, none⟩ ∧ wr.cell? ⟨b, off + k, none⟩ = some (.int .i64 (z : Int)) := by
              obtain ⟨ao', cap', e, _, _, h3⟩ := A.out.arg HWS.out HLO.out
              cases e
              obtain ⟨b, off, e1, e2⟩ := h3 k hlt
              rw [hz] at e2
              exact ⟨b, off, e1, e2⟩
            have HZ : Hid (ws[k] = (z : Int)) := hz
            clear hz
            obtain ⟨go, fo⟩ := A.out.out hzn
            have A' : Hid (FinS w T lk rows s { m with out := m.out.set z true } (wr.setCell ⟨s.bOut, z, none⟩ (.bool true))) := A.out.setOut z true
            have M' : Hid (m.out.set z true = markAll (List.replicate s.n false) (ws.take (k + 1)) ∧ m.nodes = List.replicate s.V [] ∧ m.arcs = [] ∧ m.touched = [] ∧ m.vBlocked = .slice none 0 0) := by
              refine ⟨?_, M.out.2⟩
              rw [markAll_take _ _ _ hlt, M.out.1, HZ.out, Int.toNat_natCast]
            clear A M HZ
            go_wp2
            go_roundw
            case rel => exact ⟨k + 1, _, by omega, by go_num, A', M'⟩
            case measure => simp [intOf]; omega
          · obtain ⟨go, fo⟩ := A.out.out hi
            obtain ⟨m3, M3, A3⟩ : ∃ m3 : FM, Hid (m3.out = outL s.n ws i ∧ m3.nodes = List.replicate s.V [] ∧ m3.arcs = [] ∧ m3.touched = [] ∧ m3.vBlocked = .slice none 0 0) ∧ Hid (FinS w T lk rows s m3 (wr.setCell ⟨s.bOut, i, none⟩ (.bool true))) := by
              refine ⟨{ m with out := m.out.set i true }, ⟨?_, M.out.2⟩, A.out.setOut i true⟩
              show m.out.set i true = _
              rw [M.out.1, List.take_of_length_le (by omega)]; rfl
            clear A M
            go_wp2
            clear go fo g1
            generalize wr.setCell ⟨s.bOut, i, none⟩ (.bool true) = w4 at *
            have hN3 : Hid (NetI s.V m3 (outL s.n ws i) (linkPairs (outL s.n ws i) (reachL s.n lk rows) 0)) := by
              obtain ⟨a1, a2, a3, a4, a5⟩ := M3.out
              exact ⟨a1, by rw [a2, a3]; rfl, a4, a5⟩
            have hbn : (linkPairs (outL s.n ws i) (reachL s.n lk rows) s.n).length ≤ 400000 := by have := HBN.out; unfold finPairs at this; rw [List.length_append] at this; omega
            have HB1 : Hid ((linkPairs (outL s.n ws i) (reachL s.n lk rows) s.n).length ≤ 400000) := hbn
            clear hbn M3
            go_loopw [131] (fun c wr => ∃ (k : Nat) (m : FM), k ≤ s.n ∧ c = .int .i64 k ∧ Hid (FinS w T lk rows s m wr) ∧ Hid (NetI s.V m (outL s.n ws i) (linkPairs (outL s.n ws i) (reachL s.n lk rows) k))) (fun c _ => s.n - (intOf c).toNat)
            case atStart => exact ⟨0, m3, Nat.zero_le _, rfl, A3, hN3⟩
            case round =>
              obtain ⟨k, m, hk, rfl, A, M⟩ := hrel
              clear A3 hN3
              by_cases hlt : k < s.n
              · have g1 := A.out.f1
                have go := (A.out.out hlt).1
                have HB2 : Hid ((linkPairs (outL s.n ws i) (reachL s.n lk rows) (k + 1)).length ≤ 400000) := Nat.le_trans (linkPairs_mono _ _ (by omega)) HB1.out
                rw [M.out.1] at go
                cases ho : isOut (outL s.n ws i) k with
                | true =>
                  rw [ho] at go
                  have M' : Hid (NetI s.V m (outL s.n ws i) (linkPairs (outL s.n ws i) (reachL s.n lk rows) (k + 1))) := by
                    have e : genOf (outL s.n ws i) (reachL s.n lk rows) k = [] := by unfold genOf; rw [ho]; rfl
                    show NetI _ _ _ _
                    rw [linkPairs_succ, e, List.append_nil]; exact M.out
                  clear ho
                  go_wp2
                  go_roundw
                  case rel => exact ⟨k + 1, m, by omega, by go_num, A, M'⟩
                  case measure => simp [intOf]; omega
                | false =>
                  rw [ho] at go
                  have HO : Hid (isOut (outL s.n ws i) k = false) := ho
                  have hgen : Hid (linkPairs (outL s.n ws i) (reachL s.n lk rows) (k + 1) = linkPairs (outL s.n ws i) (reachL s.n lk rows) k ++ [⟨2 * k, 2 * k + 1, 1, 0⟩] ++ linkOf (outL s.n ws i) k (reachL s.n lk rows k)) := by
                    show _ = _
                    rw [linkPairs_succ]; unfold genOf; rw [ho]; simp
                  have hl1 : (linkPairs (outL s.n ws i) (reachL s.n lk rows) k).length + 1 + (linkOf (outL s.n ws i) k (reachL s.n lk rows k)).length ≤ 400000 := by
                    have := HB2.out; rw [hgen.out] at this; simp at this; omega
                  have HL1 : Hid _ := hl1
                  clear ho hl1
                  go_wp2_with fail
                  refine (arc_s' ⟨2 * k, 2 * k + 1, 1, 0⟩ _ _ _ _ (by simp) (by simp) rfl rfl A.out M.out (by have := HL1.out; omega) (by show 2 * k < s.V; unfold FV.V; omega) (by show 2 * k + 1 < s.V; unfold FV.V; omega) hV (by show (0 : Int) ≤ 0; omega) (by show (0 : Int) ≤ 1; omega)).mono ?_
                  rintro e w5 ⟨rfl, m5, a5, n5, _⟩
                  have A5 : Hid (FinS w T lk rows s m5 w5) := a5
                  have N5 : Hid (NetI s.V m5 (outL s.n ws i) (linkPairs (outL s.n ws i) (reachL s.n lk rows) k ++ [⟨2 * k, 2 * k + 1, 1, 0⟩])) := n5
                  clear a5 n5 A M g1 go
                  go_wp2_with fail
                  refine (reach_s' k A5.out N5.out hlt hn HSS.out).mono ?_
                  rintro e w6 ⟨ra, rc, m6, rfl, a6, n6⟩
                  obtain ⟨zs, hzs⟩ : ∃ zs, reachL s.n lk rows k = zs := ⟨_, rfl⟩
                  have HZS : Hid (reachL s.n lk rows k = zs) := hzs
                  rw [hzs] at a6 ⊢
                  have A6 : Hid (FinG w T lk rows s m6 w6 (.slice ra zs.length rc) zs) := a6
                  have N6 : Hid (NetI s.V m6 (outL s.n ws i) (linkPairs (outL s.n ws i) (reachL s.n lk rows) k ++ [⟨2 * k, 2 * k + 1, 1, 0⟩])) := n6
                  have hzl : zs.length ≤ 9223372036854775807 := by obtain ⟨_, _, _, hm, _⟩ := a6.ksl; unfold maxLen at hm; omega
                  have HZG : Hid (∀ j, (h : j < zs.length) → 0 ≤ zs[j] ∧ zs[j] < s.n) := by
                    intro j hj; subst hzs; exact reach_get HLK.out hlt hj
                  clear a6 n6 A5 N5 hzs
                  go_wp2
                  go_loopw [152] (fun c wr => ∃ (j : Nat) (m : FM), j ≤ zs.length ∧ c = .int .i64 j ∧ Hid (FinG w T lk rows s m wr (.slice ra zs.length rc) zs) ∧ Hid (NetI s.V m (outL s.n ws i) (linkPairs (outL s.n ws i) (reachL s.n lk rows) k ++ [⟨2 * k, 2 * k + 1, 1, 0⟩] ++ linkOf (outL s.n ws i) k (zs.take j)))) (fun c _ => zs.length - (intOf c).toNat)
                  case atStart => exact ⟨0, m6, Nat.zero_le _, rfl, A6, by show NetI _ _ _ _; rw [List.take_zero]; simp only [linkOf, List.filter_nil, List.map_nil, List.append_nil]; exact N6.out⟩
                  case round =>
                    obtain ⟨j, mj, hj, rfl, AJ, MJ⟩ := hrel
                    clear A6 N6
                    by_cases hjl : j < zs.length
                    · obtain ⟨z, hz⟩ : ∃ z : Nat, zs[j] = (z : Int) := Int.eq_ofNat_of_zero_le (HZG.out j hjl).1
                      have hzn : z < s.n := by have := (HZG.out j hjl).2; omega
                      obtain ⟨b, off, rfl, gw⟩ : ∃ b off, ra = some ⟨b, off, none⟩ ∧ wr.cell? ⟨b, off + j, none⟩ = some (.int .i64 (z : Int)) := by
                        obtain ⟨ao', cap', e, _, _, h3⟩ := AJ.out.ksl
                        cases e
                        obtain ⟨b, off, e1, e2⟩ := h3 j hjl
                        rw [hz] at e2
                        exact ⟨b, off, e1, e2⟩
                      have g1 := AJ.out.s.f1
                      have go := (AJ.out.s.out hzn).1
                      rw [MJ.out.1] at go
                      have HT : Hid _ := linkOf_take (outL s.n ws i) k zs j hjl
                      rw [hz, Int.toNat_natCast] at HT
                      have hll : (linkPairs (outL s.n ws i) (reachL s.n lk rows) k ++ [(⟨2 * k, 2 * k + 1, 1, 0⟩ : Pr)] ++ linkOf (outL s.n ws i) k (zs.take j)).length ≤ 400000 := by
                        have h1 := HL1.out
                        have h2 := linkOf_take_le (outL s.n ws i) k zs j
                        rw [HZS.out] at h1
                        simp only [List.length_append, List.length_cons, List.length_nil]
                        omega
                      have HLL : Hid _ := hll
                      clear hz hll
                      by_cases hzk : z = k
                      · have hbq : ((z : Int) != (k : Int)) = false := by rw [bne_eq_false_iff_eq]; omega
                        have MJ' : Hid (NetI s.V mj (outL s.n ws i) (linkPairs (outL s.n ws i) (reachL s.n lk rows) k ++ [⟨2 * k, 2 * k + 1, 1, 0⟩] ++ linkOf (outL s.n ws i) k (zs.take (j + 1)))) := by
                          show NetI _ _ _ _
                          rw [HT.out, hbq]; simp only [Bool.false_and, Bool.false_eq_true, if_false, List.append_nil]; exact MJ.out
                        clear HT MJ
                        go_wp2
                        go_roundw
                        case rel => exact ⟨j + 1, mj, by omega, by go_num, AJ, MJ'⟩
                        case measure => simp [intOf]; omega
                      · have hbq : ((z : Int) != (k : Int)) = true := by rw [bne_iff_ne]; omega
                        cases ho2 : isOut (outL s.n ws i) z with
                        | true =>
                          rw [ho2] at go
                          have MJ' : Hid (NetI s.V mj (outL s.n ws i) (linkPairs (outL s.n ws i) (reachL s.n lk rows) k ++ [⟨2 * k, 2 * k + 1, 1, 0⟩] ++ linkOf (outL s.n ws i) k (zs.take (j + 1)))) := by
                            show NetI _ _ _ _
                            rw [HT.out, ho2]; simp only [Bool.not_true, Bool.and_false, Bool.false_eq_true, if_false, List.append_nil]; exact MJ.out
                          clear HT MJ ho2
                          go_wp2
                          go_roundw
                          case rel => exact ⟨j + 1, mj, by omega, by go_num, AJ, MJ'⟩
                          case measure => simp [intOf]; omega
                        | false =>
                          rw [ho2] at go
                          have HO2 : Hid (isOut (outL s.n ws i) z = false) := ho2
                          clear ho2
                          go_wp2_with fail
                          refine (arc_g' ⟨2 * k + 1, 2 * z, 1, 1⟩ _ _ _ _ (by simp) (by simp) rfl rfl AJ.out MJ.out HLL.out (by show 2 * k + 1 < s.V; unfold FV.V; omega) (by show 2 * z < s.V; unfold FV.V; omega) hV (by show (0 : Int) ≤ 1; omega) (by show (1 : Int) ≤ 1; omega)).mono ?_
                          rintro e w7 ⟨rfl, m7, a7, n7⟩
                          have A7 : Hid (FinG w T lk rows s m7 w7 (.slice (some ⟨b, off, none⟩) zs.length rc) zs) := a7
                          have N7 : Hid (NetI s.V m7 (outL s.n ws i) (linkPairs (outL s.n ws i) (reachL s.n lk rows) k ++ [⟨2 * k, 2 * k + 1, 1, 0⟩] ++ linkOf (outL s.n ws i) k (zs.take (j + 1)))) := by
                            show NetI _ _ _ _
                            rw [HT.out, hbq, HO2.out]; simp only [Bool.not_false, Bool.and_self, if_true]; rw [← List.append_assoc]; exact n7
                          clear a7 n7 AJ MJ HT HO2 g1 go gw
                          go_wp2
                          go_roundw
                          case rel => exact ⟨j + 1, m7, by omega, by go_num, A7, N7⟩
                          case measure => simp [intOf]; omega
                    · have AJ' : Hid (FinS w T lk rows s mj wr) := AJ.out.s
                      have MJ' : Hid (NetI s.V mj (outL s.n ws i) (linkPairs (outL s.n ws i) (reachL s.n lk rows) (k + 1))) := by
                        show NetI _ _ _ _
                        have h := MJ.out
                        rw [List.take_of_length_le (by omega)] at h
                        rw [hgen.out, HZS.out]; exact h
                      clear AJ MJ
                      go_wp2
                      go_roundw
                      case rel => exact ⟨k + 1, mj, by omega, by go_num, AJ', MJ'⟩
                      case measure => simp [intOf]; omega
              · have hkn : k = s.n := by omega
                subst hkn
                have MS : Hid (NetI s.V m (outL s.n ws i) (linkPairs (outL s.n ws i) (reachL s.n lk rows) s.n ++ srcPairs (outL s.n ws i) s.n 0)) := by
                  show NetI _ _ _ _
                  simp only [srcPairs, List.range_zero, List.flatMap_nil, List.append_nil]; exact M.out
                clear M HB1
                go_wp2
                go_loopw [179] (fun c wr => ∃ (k : Nat) (m : FM), k ≤ s.n ∧ c = .int .i64 k ∧ Hid (FinS w T lk rows s m wr) ∧ Hid (NetI s.V m (outL s.n ws i) (linkPairs (outL s.n ws i) (reachL s.n lk rows) s.n ++ srcPairs (outL s.n ws i) s.n k)) ∧ Hid (∀ v, v < k → isOut (outL s.n ws i) v = false → m.source[v]? = some ((2 * ((linkPairs (outL s.n ws i) (reachL s.n lk rows) s.n).length + (srcPairs (outL s.n ws i) s.n v).length) : Nat) : Int))) (fun c _ => s.n - (intOf c).toNat)
                case atStart => exact ⟨0, m, Nat.zero_le _, rfl, A, MS, fun v hv => absurd hv (Nat.not_lt_zero _)⟩
                case round =>
                  obtain ⟨k, m, hk, rfl, A, M, SR⟩ := hrel
                  clear MS
                  by_cases hlt : k < s.n
                  · have g1 := A.out.f1
                    have go := (A.out.out hlt).1
                    rw [M.out.1] at go
                    cases ho : isOut (outL s.n ws i) k with
                    | true =>
                      rw [ho] at go
                      have M' : Hid (NetI s.V m (outL s.n ws i) (linkPairs (outL s.n ws i) (reachL s.n lk rows) s.n ++ srcPairs (outL s.n ws i) s.n (k + 1))) := by
                        have e : srcOf (outL s.n ws i) s.n k = [] := by unfold srcOf; rw [ho]; rfl
                        show NetI _ _ _ _
                        rw [srcPairs_succ, e, List.append_nil]; exact M.out
                      have SR' : Hid (∀ v, v < k + 1 → isOut (outL s.n ws i) v = false → m.source[v]? = some ((2 * ((linkPairs (outL s.n ws i) (reachL s.n lk rows) s.n).length + (srcPairs (outL s.n ws i) s.n v).length) : Nat) : Int)) := by
                        intro v hv hov
                        by_cases e : v = k
                        · subst e; rw [ho] at hov; cases hov
                        · exact SR.out v (by omega) hov
                      clear ho M SR
                      go_wp2
                      go_roundw
                      case rel => exact ⟨k + 1, m, by omega, by go_num, A, M', SR'⟩
                      case measure => simp [intOf]; omega
                    | false =>
                      rw [ho] at go
                      have hsrc : Hid (srcPairs (outL s.n ws i) s.n (k + 1) = srcPairs (outL s.n ws i) s.n k ++ [⟨2 * s.n, 2 * k, 0, 0⟩]) := by
                        show _ = _
                        rw [srcPairs_succ]; unfold srcOf; rw [ho]; rfl
                      have hll : (linkPairs (outL s.n ws i) (reachL s.n lk rows) s.n ++ srcPairs (outL s.n ws i) s.n k).length ≤ 400000 := by
                        have h1 := HBN.out
                        unfold finPairs at h1
                        have h2 : (srcPairs (outL s.n ws i) s.n k).length ≤ (srcPairs (outL s.n ws i) s.n s.n).length := srcPairs_mono _ _ hk
                        simp only [List.length_append] at h1 ⊢
                        omega
                      have HLL : Hid _ := hll
                      clear ho hll
                      obtain ⟨a3, k3, e3, g3⟩ := A.out.f3
                      have hml : m.arcs.length ≤ 800000 := by have := M.out.arcs; have := HLL.out; omega
                      have hwm : IntKind.i32.wrap (m.arcs.length : Int) = m.arcs.length := wrap32_nat (by omega)
                      have g4 := A.out.f4
                      obtain ⟨⟨u0, gs⟩, fs⟩ := A.out.src hlt
                      clear e3
                      go_upto_region 35 with fail
                      refine wp_region_noPanic ?_
                      refine wp_region_T (fun w' => w'.cell? ⟨s.F, 4, none⟩ = some (.slice (some ⟨s.bSource, 0, none⟩) s.n s.n) ∧ w'.cell? ⟨s.F, 3, none⟩ = some (.slice a3 m.arcs.length k3))
                        [3, 8] [12] [0, 1, 2, 3, 4, 5, 6, 7, 8, 9, 10, 11, 12] (by kernel_rfl) (by kernel_rfl) rfl (by kernel_rfl) (fun _ _ _ _ _ h => h) ⟨g4, g3⟩ ?_
                      simp only [List.map_cons, List.map_nil, List.getElem?_toArray, List.getElem?_cons_succ, List.getElem?_cons_zero]
                      iterate 3
                        refine wpT_take (v := ?_) (by rfl) (by rfl) ?_ ?_
                        rotate_left 1
                        focus (intro w; go_simp; try with_reducible rfl)
                        simp only [Act.put, List.setIfInBounds_toArray, List.set_cons_zero, List.set_cons_succ]
                      refine wpT_held (v := ?_) (by rfl) (by rfl) (by rfl) ?_ ?_
                      rotate_left 1
                      focus (rintro w ⟨s1, s2⟩; go_simp; try with_reducible rfl)
                      simp only [Act.put, List.setIfInBounds_toArray, List.set_cons_zero, List.set_cons_succ]
                      iterate 4
                        refine wpT_take (v := ?_) (by rfl) (by rfl) ?_ ?_
                        rotate_left 1
                        focus (intro w; go_simp; try with_reducible rfl)
                        simp only [Act.put, List.setIfInBounds_toArray, List.set_cons_zero, List.set_cons_succ]
                      refine wpT_held (v := ?_) (by rfl) (by rfl) (by rfl) ?_ ?_
                      rotate_left 1
                      focus (rintro w ⟨s1, s2⟩; go_simp; try with_reducible rfl)
                      simp only [Act.put, List.setIfInBounds_toArray, List.set_cons_zero, List.set_cons_succ]
                      iterate 3
                        refine wpT_take (v := ?_) (by rfl) (by rfl) ?_ ?_
                        rotate_left 1
                        focus (intro w; go_simp; try with_reducible rfl)
                        simp only [Act.put, List.setIfInBounds_toArray, List.set_cons_zero, List.set_cons_succ]
                      refine wpT_last (by rfl) (by kernel_rfl) (fun K hK => ?_)
                      go_simp
                      refine hK _ _ ?_
                      clear hK K
                      try simp only [Act.put, List.setIfInBounds_toArray, List.set_cons_zero, List.set_cons_succ]
                      refine wpT_nil ?_
                      refine NoPanic.normal ?_
                      have A8 : Hid (FinS w T lk rows s { m with source := m.source.set k m.arcs.length } (wr.setCell ⟨s.bSource, k, none⟩ (.int .i32 m.arcs.length)).drew) := (A.out.setSource k m.arcs.length).drew
                      have SR8 : Hid (∀ v, v < k + 1 → isOut (outL s.n ws i) v = false → (m.source.set k (m.arcs.length : Int))[v]? = some ((2 * ((linkPairs (outL s.n ws i) (reachL s.n lk rows) s.n).length + (srcPairs (outL s.n ws i) s.n v).length) : Nat) : Int)) := by
                        intro v hv hov
                        by_cases e : k = v
                        · subst e
                          have hl : m.source.length = s.n := A.out.len.source
                          rw [List.getElem?_set_self (by omega), M.out.arcs, List.length_append]
                        · rw [List.getElem?_set_ne e]; exact SR.out v (by omega) hov
                      have M8 : Hid (NetI s.V { m with source := m.source.set k (m.arcs.length : Int) } (outL s.n ws i) (linkPairs (outL s.n ws i) (reachL s.n lk rows) s.n ++ srcPairs (outL s.n ws i) s.n k)) := M.out
                      clear A M SR g1 go g3 g4 gs fs hwm
                      go_wp2_with fail
                      refine (arc_s' ⟨2 * s.n, 2 * k, 0, 0⟩ _ _ _ _ (by simp) (by simp) rfl rfl A8.out M8.out HLL.out (by show 2 * s.n < s.V; unfold FV.V; omega) (by show 2 * k < s.V; unfold FV.V; omega) hV (by show (0 : Int) ≤ 0; omega) (by show (0 : Int) ≤ 1; omega)).mono ?_
                      rintro e w9 ⟨rfl, m9, a9, n9, s9⟩
                      have A9 : Hid (FinS w T lk rows s m9 w9) := a9
                      have N9 : Hid (NetI s.V m9 (outL s.n ws i) (linkPairs (outL s.n ws i) (reachL s.n lk rows) s.n ++ srcPairs (outL s.n ws i) s.n (k + 1))) := by
                        show NetI _ _ _ _
                        rw [hsrc.out, ← List.append_assoc]; exact n9
                      have S9 : Hid (∀ v, v < k + 1 → isOut (outL s.n ws i) v = false → m9.source[v]? = some ((2 * ((linkPairs (outL s.n ws i) (reachL s.n lk rows) s.n).length + (srcPairs (outL s.n ws i) s.n v).length) : Nat) : Int)) := by
                        intro v hv hov; rw [s9]; exact SR8.out v hv hov
                      clear a9 n9 s9 A8 M8 SR8
                      go_wp2
                      go_roundw
                      case rel => exact ⟨k + 1, m9, by omega, by go_num, A9, N9, S9⟩
                      case measure => simp [intOf]; omega
                  · have hkn : k = s.n := by omega
                    subst hkn
                    go_wp2
                    go_ret
                    exact ⟨s, m, rfl, rfl, rfl, HIN.out, A.out, M.out.1, M.out.2.1, M.out.2.2.1, M.out.2.2.2, SR.out⟩
end Go.Proofs.Qxb6605292a
