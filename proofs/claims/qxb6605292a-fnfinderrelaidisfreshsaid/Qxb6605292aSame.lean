/-
  zzSameNetwork (f23) over two finders that hold the same network.
-/
import Derived.Test.Qxb6605292aRead
namespace Go.Proofs.Qxb6605292a
open Go.RowKit

def SameR (w : World) (e : Ending) (w' : World) : Prop := e = .returned (.bool true) ∧ Below w.heap.size w w'
/-- Both finders stand; the old world is as it was. -/
structure SNI (w : World) (T T2 : Nat → Nat) (s t : FV) (wr : World) : Prop where
  f : FinAt wr T s
  h : FinAt wr T2 t
  b : Below w.heap.size w wr
theorem SNI.later {w : World} {T T2 : Nat → Nat} {s t : FV} {wr w2 : World} (i : SNI w T T2 s t wr) (hb : Below wr.heap.size wr w2) : SNI w T T2 s t w2 := ⟨i.f.later hb, i.h.later hb, below_all i.b hb⟩
/-- Four rows with a network's arcs. -/
structure AR (wr : World) (l : List Arc) (g1 g2 g3 g4 : Nat) : Prop where
  r1 : Rw wr g1 21 ((l.map Arc.to).map (.int .i32))
  r2 : Rw wr g2 56 ((l.map Arc.room).map (.int .i8))
  r3 : Rw wr g3 56 ((l.map Arc.full).map (.int .i8))
  r4 : Rw wr g4 56 ((l.map Arc.cost).map (.int .i8))
theorem AR.later {wr w2 : World} {l : List Arc} {g1 g2 g3 g4 : Nat} (h : AR wr l g1 g2 g3 g4) (hb : Below wr.heap.size wr w2) : AR w2 l g1 g2 g3 g4 := ⟨h.r1.below hb h.r1.lt, h.r2.below hb h.r2.lt, h.r3.below hb h.r3.lt, h.r4.below hb h.r4.lt⟩
theorem AR.arc {wr : World} {l : List Arc} {g1 g2 g3 g4 : Nat} (h : AR wr l g1 g2 g3 g4) {a : Nat} {x : Arc} (hx : l[a]? = some x) :
    wr.cell? ⟨g1, a, none⟩ = some (.int .i32 x.to) ∧ wr.cell? ⟨g2, a, none⟩ = some (.int .i8 x.room) ∧ wr.cell? ⟨g3, a, none⟩ = some (.int .i8 x.full) ∧ wr.cell? ⟨g4, a, none⟩ = some (.int .i8 x.cost) := by
  rw [h.r1.cell, h.r2.cell, h.r3.cell, h.r4.cell]; simp [hx]
def SNA (w : World) (T T2 : Nat → Nat) (s t : FV) (l : List Arc) (g1 g2 g3 g4 h1 h2 h3 h4 : Nat) (wr : World) : Prop := SNI w T T2 s t wr ∧ AR wr l g1 g2 g3 g4 ∧ AR wr l h1 h2 h3 h4
theorem SNA.later {w : World} {T T2 : Nat → Nat} {s t : FV} {l : List Arc} {g1 g2 g3 g4 h1 h2 h3 h4 : Nat} {wr w2 : World} (i : SNA w T T2 s t l g1 g2 g3 g4 h1 h2 h3 h4 wr) (hb : Below wr.heap.size wr w2) : SNA w T T2 s t l g1 g2 g3 g4 h1 h2 h3 h4 w2 := ⟨i.1.later hb, i.2.1.later hb, i.2.2.later hb⟩

set_option maxRecDepth 100000 in
set_option maxHeartbeats 4000000 in
theorem sameNetwork_any {w : World} {T T2 : Nat → Nat} {s t : FV} (h : FinAt w T s) (k : FinAt w T2 t) (hn : s.n ≤ 256) (htn : t.n = s.n) (ha : t.arcs = s.arcs) (hal : s.arcs.length ≤ 1000000) (hno : t.nodes = s.nodes) (ho : t.out = s.out)
    (hrl : ∀ x, x < s.V → (s.row x).length ≤ 1000000)
    (hs : ∀ v, v < s.n → isOut s.out v = false → t.source[v]? = s.source[v]?) (ht1 : s.touched = []) (ht2 : t.touched = []) (hb1 : s.vBlocked = .slice none 0 0) (hb2 : t.vBlocked = .slice none 0 0) :
    Calls Try.prog 23 #[.pointer (some ⟨s.F, 0, none⟩), .pointer (some ⟨t.F, 0, none⟩), .int .i64 s.n] w fun e w' => SameR w e w' := by
  have HI : Hid (SNI w T T2 s t w) := ⟨h, k, Below.refl _ _⟩
  have HTN : Hid (t.n = s.n) := htn
  have HA : Hid (t.arcs = s.arcs) := ha
  have HNO : Hid (t.nodes = s.nodes) := hno
  have HO : Hid (t.out = s.out) := ho
  have HSR : Hid (∀ v, v < s.n → isOut s.out v = false → t.source[v]? = s.source[v]?) := hs
  have HT1 : Hid (s.touched = []) := ht1
  have HT2 : Hid (t.touched = []) := ht2
  have HB1 : Hid (s.vBlocked = .slice none 0 0) := hb1
  have HB2 : Hid (t.vBlocked = .slice none 0 0) := hb2
  have HRL : Hid (∀ x, x < s.V → (s.row x).length ≤ 1000000) := hrl
  clear h k htn ha hno ho hs ht1 ht2 hb1 hb2 hrl
  obtain ⟨l, hl⟩ : ∃ l, s.arcs = l := ⟨_, rfl⟩
  rw [hl] at hal
  have HL : Hid (s.arcs = l) := hl
  clear hl
  obtain ⟨V, hV⟩ : ∃ V : Nat, V = s.V := ⟨_, rfl⟩
  have HV : Hid (V = s.V) := hV
  have hV1 : V ≤ 2 * s.n + 1 := by rw [hV]; exact Nat.le_refl _
  have hV2 : 2 * s.n + 1 ≤ V := by rw [hV]; exact Nat.le_refl _
  clear hV
  go_enter Try.func23, Try.ntmps23
  go_wp2_with fail
  refine (arcs_any HI.out.f (by rw [HL.out]; exact hal)).mono ?_
  rw [HL.out]
  rintro e w1 ⟨g1, g2, g3, g4, rfl, r1, r2, r3, r4, _, _, _, _, hb1⟩
  have HI1 : Hid (SNI w T T2 s t w1) := HI.out.later hb1
  have HR1 : Hid (AR w1 l g1 g2 g3 g4) := ⟨r1, r2, r3, r4⟩
  clear r1 r2 r3 r4 hb1 HI
  unfold at0
  go_wp2_with fail
  refine (arcs_any HI1.out.h (by rw [HA.out, HL.out]; exact hal)).mono ?_
  rw [HA.out, HL.out]
  rintro e w2 ⟨h1, h2, h3, h4, rfl, r1, r2, r3, r4, _, _, _, _, hb1⟩
  have HI2 : Hid (SNA w T T2 s t l g1 g2 g3 g4 h1 h2 h3 h4 w2) := ⟨HI1.out.later hb1, HR1.out.later hb1, ⟨r1, r2, r3, r4⟩⟩
  clear r1 r2 r3 r4 hb1 HI1 HR1
  unfold at0
  go_wp2
  go_loopw [15] (fun c wr => ∃ k : Nat, k ≤ l.length ∧ c = .int .i64 k ∧ Hid (SNA w T T2 s t l g1 g2 g3 g4 h1 h2 h3 h4 wr)) (fun c _ => l.length - (intOf c).toNat)
  case atStart => exact ⟨0, Nat.zero_le _, rfl, HI2⟩
  case round =>
    obtain ⟨k, hk, rfl, HI⟩ := hrel
    clear HI2
    by_cases hlt : k < l.length
    · obtain ⟨x, hx⟩ : ∃ x, l[k]? = some x := ⟨_, List.getElem?_eq_getElem hlt⟩
      obtain ⟨p1, p2, p3, p4⟩ := HI.out.2.1.arc hx
      obtain ⟨q1, q2, q3, q4⟩ := HI.out.2.2.arc hx
      have HI' : Hid (∀ q, SNA w T T2 s t l g1 g2 g3 g4 h1 h2 h3 h4 (wr.drewN q)) := fun q => HI.out.later (below_draws (Below.refl _ _) q)
      obtain ⟨x1, x2, x3, x4⟩ := x
      clear hx HI
      go_wp2
      go_quiet (fail)
      go_wp2
      go_roundw
      case rel => exact ⟨k + 1, by omega, by go_num, HI'.out _⟩
      case measure => simp [intOf]; omega
    · have HJ : Hid (SNI w T T2 s t wr) := HI.out.1
      clear HI
      go_wp2_with fail
      refine (nodeCount_any HJ.out.f).mono ?_
      rw [← HV.out]
      rintro e w3 ⟨rfl, rfl⟩
      go_wp2_with fail
      refine (nodeCount_any HJ.out.h).mono ?_
      rw [show t.V = V by have h1 := HTN.out; have h2 := HV.out; unfold FV.V at h2 ⊢; omega]
      rintro e w4 ⟨rfl, rfl⟩
      have hrow : ∀ x, t.row x = s.row x := fun x => by unfold FV.row; rw [HNO.out]
      have HROW : Hid (∀ x, t.row x = s.row x) := hrow
      clear hrow
      go_wp2
      go_loopw [17] (fun c wr => ∃ k : Nat, k ≤ V ∧ c = .int .i64 k ∧ Hid (SNI w T T2 s t wr)) (fun c _ => V - (intOf c).toNat)
      case atStart => exact ⟨0, Nat.zero_le _, rfl, HJ⟩
      case round =>
        obtain ⟨x, hx, rfl, HK⟩ := hrel
        clear HJ
        by_cases hxl : x < V
        · have hxs : x < s.V := by rw [← HV.out]; exact hxl
          have hxt : x < t.V := by unfold FV.V; rw [HTN.out]; exact hxs
          have HXS : Hid (x < s.V) := hxs
          have HXT : Hid (x < t.V) := hxt
          have hrb : (s.row x).length ≤ 1000000 := HRL.out x hxs
          clear hxs hxt
          go_wp2_with fail
          refine (nodeLen_any HK.out.f x HXS.out).mono ?_
          rintro e w5 ⟨rfl, rfl⟩
          go_wp2_with fail
          refine (nodeLen_any HK.out.h x HXT.out).mono ?_
          rw [HROW.out x]
          rintro e w6 ⟨rfl, rfl⟩
          obtain ⟨r, hr⟩ : ∃ r, s.row x = r := ⟨_, rfl⟩
          have HRX : Hid (s.row x = r) := hr
          rw [hr] at hrb
          rw [hr]
          clear hr
          go_wp2
          go_loopw [19] (fun c wr => ∃ k : Nat, k ≤ r.length ∧ c = .int .i64 k ∧ Hid (SNI w T T2 s t wr)) (fun c _ => r.length - (intOf c).toNat)
          case atStart => exact ⟨0, Nat.zero_le _, rfl, HK⟩
          case round =>
            obtain ⟨j, hj, rfl, HM⟩ := hrel
            clear HK
            by_cases hjl : j < r.length
            · have c1 : Hid (Calls Try.prog 48 #[.pointer (some ⟨s.F, 0, none⟩), .int .i64 x, .int .i64 j] wr fun e w' => e = .returned (.int .i32 (r.getD j 0)) ∧ w' = wr) := by
                have := nodeArc_any HM.out.f x j HXS.out (by rw [HRX.out]; exact hjl)
                rw [HRX.out] at this; exact this
              have c2 : Hid (Calls Try.prog 48 #[.pointer (some ⟨t.F, 0, none⟩), .int .i64 x, .int .i64 j] wr fun e w' => e = .returned (.int .i32 (r.getD j 0)) ∧ w' = wr) := by
                have := nodeArc_any HM.out.h x j HXT.out (by rw [HROW.out, HRX.out]; exact hjl)
                rw [HROW.out, HRX.out] at this; exact this
              generalize r.getD j 0 = z at *
              go_wp2_with fail
              refine c1.out.mono ?_
              rintro e w7 ⟨rfl, rfl⟩
              go_wp2_with fail
              refine c2.out.mono ?_
              rintro e w8 ⟨rfl, rfl⟩
              clear c1 c2
              go_wp2
              go_roundw
              case rel => exact ⟨j + 1, by omega, by go_num, HM⟩
              case measure => simp [intOf]; omega
            · go_wp2
              go_roundw
              case rel => exact ⟨x + 1, by omega, by go_num, HM⟩
              case measure => simp [intOf]; omega
        · go_wp2_with fail
          refine (outLen_any HK.out.f).mono ?_
          rintro e w5 ⟨rfl, rfl⟩
          go_wp2_with fail
          refine (outLen_any HK.out.h).mono ?_
          rw [HTN.out]
          rintro e w6 ⟨rfl, rfl⟩
          go_wp2
          go_loopw [20] (fun c wr => ∃ k : Nat, k ≤ s.n ∧ c = .int .i64 k ∧ Hid (SNI w T T2 s t wr)) (fun c _ => s.n - (intOf c).toNat)
          case atStart => exact ⟨0, Nat.zero_le _, rfl, HK⟩
          case round =>
            obtain ⟨v, hv, rfl, HM⟩ := hrel
            clear HK
            by_cases hvl : v < s.n
            · have HVT : Hid (v < t.n) := by rw [HTN.out]; exact hvl
              go_wp2_with fail
              refine (out_any HM.out.f v hvl).mono ?_
              rintro e w7 ⟨rfl, rfl⟩
              go_wp2_with fail
              refine (out_any HM.out.h v HVT.out).mono ?_
              rw [HO.out]
              rintro e w8 ⟨rfl, rfl⟩
              cases hov : isOut s.out v with
              | true =>
                clear hov
                go_wp2
                go_roundw
                case rel => exact ⟨v + 1, by omega, by go_num, HM⟩
                case measure => simp [intOf]; omega
              | false =>
                have c1 : Hid (Calls Try.prog 49 #[.pointer (some ⟨s.F, 0, none⟩), .int .i64 v] w8 fun e w' => e = .returned (.int .i32 (s.source.getD v 0)) ∧ w' = w8) := source_any HM.out.f v hvl
                have c2 : Hid (Calls Try.prog 49 #[.pointer (some ⟨t.F, 0, none⟩), .int .i64 v] w8 fun e w' => e = .returned (.int .i32 (s.source.getD v 0)) ∧ w' = w8) := by
                  have := source_any HM.out.h v HVT.out
                  rw [List.getD_eq_getElem?_getD, HSR.out v hvl hov] at this
                  rw [List.getD_eq_getElem?_getD]; exact this
                clear hov
                generalize s.source.getD v 0 = z at *
                go_wp2_with fail
                refine c1.out.mono ?_
                rintro e w9 ⟨rfl, rfl⟩
                go_wp2_with fail
                refine c2.out.mono ?_
                rintro e w10 ⟨rfl, rfl⟩
                clear c1 c2
                go_wp2
                go_roundw
                case rel => exact ⟨v + 1, by omega, by go_num, HM⟩
                case measure => simp [intOf]; omega
            · have d1 : Hid (Calls Try.prog 28 #[.pointer (some ⟨s.F, 0, none⟩)] wr fun e w' => e = .returned (.int .i64 0) ∧ w' = wr) := by
                have := touchedLen_any HM.out.f
                rw [HT1.out] at this; exact this
              have d2 : Hid (Calls Try.prog 28 #[.pointer (some ⟨t.F, 0, none⟩)] wr fun e w' => e = .returned (.int .i64 0) ∧ w' = wr) := by
                have := touchedLen_any HM.out.h
                rw [HT2.out] at this; exact this
              go_wp2_with fail
              refine d1.out.mono ?_
              rintro e w7 ⟨rfl, rfl⟩
              go_wp2_with fail
              refine d2.out.mono ?_
              rintro e w8 ⟨rfl, rfl⟩
              go_wp2_with fail
              refine (blockedNil_any HM.out.f none 0 0 HB1.out).mono ?_
              rintro e w9 ⟨rfl, rfl⟩
              go_wp2_with fail
              refine (blockedNil_any HM.out.h none 0 0 HB2.out).mono ?_
              rintro e w10 ⟨rfl, rfl⟩
              have HE : Hid (SameR w (.returned (.bool true)) w10) := ⟨rfl, HM.out.b⟩
              clear d1 d2
              go_wp2
              go_ret
              exact HE.out
end Go.Proofs.Qxb6605292a
