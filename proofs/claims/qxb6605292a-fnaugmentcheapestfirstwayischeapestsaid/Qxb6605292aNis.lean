/-
  zzNetworkIs (f17) over the network that finder lays.
-/
import Derived.Test.Qxb6605292aWant
import Derived.Test.Qxb6605292aRead
namespace Go.Proofs.Qxb6605292a
open Go.RowKit

theorem xor_one_nat (a : Nat) : a ^^^ 1 = if a % 2 = 0 then a + 1 else a - 1 := by
  have h1 : (a ^^^ 1) / 2 = a / 2 := by rw [Nat.xor_div_two]; simp
  have h2 : (a ^^^ 1) % 2 = 1 ↔ ¬ a % 2 = 1 := by rw [Nat.mod_two_eq_one_iff_testBit_zero, Nat.mod_two_eq_one_iff_testBit_zero, Nat.testBit_xor]; simp
  split <;> omega
theorem bits_xor_one (a : Nat) (h : a < 4611686018427387904) : bits .xor .i64 (a : Int) 1 = ((if a % 2 = 0 then a + 1 else a - 1 : Nat) : Int) := by
  rw [← xor_one_nat]
  have hx : a ^^^ 1 < 2 ^ 62 := Nat.xor_lt_two_pow (by omega) (by omega)
  have h1 : (BitVec.ofInt 64 (a : Int)).toNat = a := by
    rw [BitVec.ofInt_natCast, BitVec.toNat_ofNat]; exact Nat.mod_eq_of_lt (by omega)
  have h2 : (BitVec.ofInt 64 (1 : Int)).toNat = 1 := rfl
  show IntKind.i64.wrap ((BitVec.ofInt 64 (a : Int) ^^^ BitVec.ofInt 64 (1 : Int)).toNat : Int) = _
  rw [BitVec.toNat_xor, h1, h2, IntKind.wrap_i64]
  omega

def NisR (w : World) (e : Ending) (w' : World) : Prop := e = .returned (.bool true) ∧ Below w.heap.size w w'
/-- What the walk holds: the old world, and five new rows below B. -/
structure NI (w : World) (H B : Nat) (O : List Bool) (l : List Arc) (gO g1 g2 g3 g4 : Nat) (wr : World) : Prop where
  b : Below H w wr
  hB : H ≤ B
  lO : gO < B
  l1 : g1 < B
  l2 : g2 < B
  l3 : g3 < B
  l4 : g4 < B
  ro : Rw wr gO 4 (O.map .bool)
  r1 : Rw wr g1 21 ((l.map Arc.to).map (.int .i32))
  r2 : Rw wr g2 56 ((l.map Arc.room).map (.int .i8))
  r3 : Rw wr g3 56 ((l.map Arc.full).map (.int .i8))
  r4 : Rw wr g4 56 ((l.map Arc.cost).map (.int .i8))
section
variable {w wr w2 : World} {H B : Nat} {O : List Bool} {l : List Arc} {gO g1 g2 g3 g4 : Nat}
theorem NI.later (h : NI w H B O l gO g1 g2 g3 g4 wr) (hb : Below B wr w2) : NI w H B O l gO g1 g2 g3 g4 w2 :=
  ⟨h.b.trans (hb.mono h.hB), h.hB, h.lO, h.l1, h.l2, h.l3, h.l4, h.ro.below hb h.lO, h.r1.below hb h.l1, h.r2.below hb h.l2, h.r3.below hb h.l3, h.r4.below hb h.l4⟩
theorem NI.set (h : NI w H B O l gO g1 g2 g3 g4 wr) {p : Addr} (hp : B ≤ p.block) (v : Value) : NI w H B O l gO g1 g2 g3 g4 (wr.setCell p v) := h.later ((Below.refl _ _).setCell hp v)
theorem NI.draws (h : NI w H B O l gO g1 g2 g3 g4 wr) (q : Nat) : NI w H B O l gO g1 g2 g3 g4 (wr.drewN q) := h.later (below_draws (Below.refl _ _) q)
theorem NI.raise {B' : Nat} (h : NI w H B O l gO g1 g2 g3 g4 wr) (hb : B ≤ B') : NI w H B' O l gO g1 g2 g3 g4 wr :=
  ⟨h.b, Nat.le_trans h.hB hb, Nat.lt_of_lt_of_le h.lO hb, Nat.lt_of_lt_of_le h.l1 hb, Nat.lt_of_lt_of_le h.l2 hb, Nat.lt_of_lt_of_le h.l3 hb, Nat.lt_of_lt_of_le h.l4 hb, h.ro, h.r1, h.r2, h.r3, h.r4⟩
theorem NI.out (h : NI w H B O l gO g1 g2 g3 g4 wr) {v : Nat} (hv : v < O.length) : wr.cell? ⟨gO, v, none⟩ = some (.bool (isOut O v)) := by
  rw [h.ro.cell]; simp [isOut, hv]
theorem NI.arc (h : NI w H B O l gO g1 g2 g3 g4 wr) {a : Nat} {x : Arc} (hx : l[a]? = some x) :
    wr.cell? ⟨g1, a, none⟩ = some (.int .i32 x.to) ∧ wr.cell? ⟨g2, a, none⟩ = some (.int .i8 x.room) ∧ wr.cell? ⟨g3, a, none⟩ = some (.int .i8 x.full) ∧ wr.cell? ⟨g4, a, none⟩ = some (.int .i8 x.cost) := by
  rw [h.r1.cell, h.r2.cell, h.r3.cell, h.r4.cell]; simp [hx]
end

/-- And the row of wanted pairs, at B. -/
structure WI (w : World) (H B V : Nat) (O : List Bool) (l : List Arc) (gO g1 g2 g3 g4 : Nat) (qs : List Pr) (wr : World) : Prop where
  ni : NI w H B O l gO g1 g2 g3 g4 wr
  want : Rw wr B 21 ((wantL V qs).map (.int .i32))
section
variable {w wr w2 : World} {H B V : Nat} {O : List Bool} {l : List Arc} {gO g1 g2 g3 g4 : Nat} {qs : List Pr}
theorem WI.later (h : WI w H B V O l gO g1 g2 g3 g4 qs wr) (hb : Below wr.heap.size wr w2) : WI w H B V O l gO g1 g2 g3 g4 qs w2 :=
  ⟨h.ni.later (hb.mono (Nat.le_of_lt h.want.lt)), h.want.below hb h.want.lt⟩
theorem WI.congr {qs' : List Pr} (h : WI w H B V O l gO g1 g2 g3 g4 qs wr) (e : ∀ c, cnt V qs c = cnt V qs' c) : WI w H B V O l gO g1 g2 g3 g4 qs' wr :=
  ⟨h.ni, by rw [← wantL_congr e]; exact h.want⟩
theorem WI.ready (h : WI w H B V O l gO g1 g2 g3 g4 qs wr) (p : Pr) (c : Nat) (hc : key V p = c) (hp : c < V * V) (hq : qs.length ≤ 1000000) :
    ∃ x : Nat, wr.cell? ⟨B, c, none⟩ = some (.int .i32 (x : Int)) ∧ wr.frozen? ⟨B, c, none⟩ = false ∧ IntKind.i32.wrap ((x : Int) + 1) = (x : Int) + 1 ∧ WI w H B V O l gO g1 g2 g3 g4 (qs ++ [p]) (wr.setCell ⟨B, c, none⟩ (.int .i32 ((x : Int) + 1))) := by
  subst hc
  refine ⟨cnt V qs (key V p), ?_, h.want.frozen _, ?_, h.ni.set (Nat.le_refl _) _, ?_⟩
  · rw [h.want.cell, List.getElem?_map, wantL_get _ _ hp]; rfl
  · have := cnt_le V qs (key V p); exact wrap_i32_in (by omega) (by omega)
  · rw [← wantL_add _ _ _ hp, List.map_set]; exact h.want.set _ _
theorem WI.take {p : Pr} (h : WI w H B V O l gO g1 g2 g3 g4 (p :: qs) wr) (c : Nat) (hc : key V p = c) (hp : c < V * V) (hq : qs.length ≤ 1000000) :
    ∃ x : Nat, 1 ≤ x ∧ wr.cell? ⟨B, c, none⟩ = some (.int .i32 (x : Int)) ∧ wr.frozen? ⟨B, c, none⟩ = false ∧ IntKind.i32.wrap ((x : Int) - 1) = (x : Int) - 1 ∧ WI w H B V O l gO g1 g2 g3 g4 qs (wr.setCell ⟨B, c, none⟩ (.int .i32 ((x : Int) - 1))) := by
  subst hc
  have h1 := cnt_head V qs p
  refine ⟨cnt V (p :: qs) (key V p), h1, ?_, h.want.frozen _, ?_, h.ni.set (Nat.le_refl _) _, ?_⟩
  · rw [h.want.cell, List.getElem?_map, wantL_get _ _ hp]; rfl
  · have := cnt_le V (p :: qs) (key V p); rw [List.length_cons] at this; exact wrap_i32_in (by omega) (by omega)
  · have h2 := h.want.set (key V p) (.int .i32 ((cnt V (p :: qs) (key V p) : Int) - 1))
    rw [← List.map_set, wantL_sub _ _ _ hp] at h2
    exact h2
end
/-- A key lies in the matrix. -/
theorem key_lt {V : Nat} {a b : Nat} (ha : a < V) (hb : b < V) : a * V + b < V * V := by
  have : (a + 1) * V ≤ V * V := Nat.mul_le_mul_right V ha
  rw [Nat.add_mul, Nat.one_mul] at this
  omega
theorem key_eqs {n V : Nat} (hV : V = 2 * n + 1) (hn : n ≤ 256) {a b : Nat} (A : Int) (hA : A = (a : Int)) (ha : a < V) (hb : b < V) : ∃ m : Nat, a * V = m ∧ m + b < V * V ∧ m ≤ 300000 ∧ IntKind.i64.wrap (A * (V : Int)) = (m : Int) := by
  subst hA
  have h1 := key_lt ha hb
  have h2 : V * V ≤ 513 * 513 := Nat.mul_le_mul (by omega) (by omega)
  refine ⟨a * V, rfl, h1, by omega, ?_⟩
  rw [IntKind.wrap_i64, ← Int.natCast_mul]; omega

set_option maxRecDepth 100000 in
set_option maxHeartbeats 8000000 in
theorem networkIs_any {w : World} {T : Nat → Nat} {s : FV} {lk : Bool} {rows : List (List Int)} {ws : List Int} {i : Nat} {vl vw : Value} (h : FinAt w T s) (hvl : RSl w vl rows) (hvw : KSl .i64 w vw ws)
    (hn : s.n ≤ 256) (hn0 : 1 ≤ s.n) (hi : i < s.n) (hwin : inR s.n ws = true) (hlok : linksOk s.n lk rows = true)
    (ho : s.out = outL s.n ws i) (hnet : (s.nodes, s.arcs) = netOf (2 * s.n + 1) (finPairs (outL s.n ws i) (reachL s.n lk rows) s.n)) (ht : s.touched = []) (hbl : s.vBlocked = .slice none 0 0)
    (hsrc : ∀ v, v < s.n → isOut (outL s.n ws i) v = false → s.source[v]? = some ((2 * ((linkPairs (outL s.n ws i) (reachL s.n lk rows) s.n).length + (srcPairs (outL s.n ws i) s.n v).length) : Nat) : Int))
    (hbnd : (finPairs (outL s.n ws i) (reachL s.n lk rows) s.n).length ≤ 400000) :
    Calls Try.prog 17 #[.pointer (some ⟨s.F, 0, none⟩), .int .i64 s.n, .bool lk, vl, vw, .int .i64 i] w fun e w' => NisR w e w' := by
  have HF : Hid (FinAt w T s) := h
  obtain ⟨ra, rc, rfl, hrm, _, hrows⟩ := hvl
  unfold maxLen at hrm
  have HVL : Hid (∀ i, (hi : i < rows.length) → ∃ b off rv, ra = some ⟨b, off, none⟩ ∧ w.cell? ⟨b, off + i, none⟩ = some rv ∧ KSl .i64 w rv rows[i]) := hrows
  have HVW : Hid (KSl .i64 w vw ws) := hvw
  have HWI : Hid (inR s.n ws = true) := hwin
  obtain ⟨wa, wc, rfl, _⟩ := hvw
  obtain ⟨H, hH⟩ := size_name w
  have HH : Hid (w.heap.size = H) := hH
  have HAL : Hid (s.arcs.length ≤ 1000000) := by
    show _ ≤ _
    have e : s.arcs = (netOf (2 * s.n + 1) (finPairs (outL s.n ws i) (reachL s.n lk rows) s.n)).2 := by rw [← hnet]
    rw [e, netOf_arcs]; omega
  have HRG : Hid (∀ v, v < s.n → ∀ j, (h : j < (reachL s.n lk rows v).length) → 0 ≤ (reachL s.n lk rows v)[j] ∧ (reachL s.n lk rows v)[j] < s.n) := fun v hv j hj => reach_get hlok hv hj
  have HPO : Hid (∀ p ∈ finPairs (outL s.n ws i) (reachL s.n lk rows) s.n, PairOk s.n p) := by
    refine finPairs_ok _ _ _ fun v hv z hz => ?_
    obtain ⟨j, hj, rfl⟩ := List.getElem_of_mem hz
    exact reach_get hlok hv hj
  have HRE : Hid (reachL s.n lk rows = reachL s.n lk rows) := rfl
  obtain ⟨O, hO⟩ : ∃ O, outL s.n ws i = O := ⟨_, rfl⟩
  have HOE : Hid (outL s.n ws i = O) := hO
  rw [hO] at ho hnet hsrc hbnd HPO
  have HOL : Hid (O.length = s.n) := by show _ = _; rw [← hO, outL_len]
  have HSO : Hid (s.out = O) := ho
  have HNE : Hid ((s.nodes, s.arcs) = netOf (2 * s.n + 1) (finPairs O (reachL s.n lk rows) s.n)) := hnet
  have HT0 : Hid (s.touched = []) := ht
  have HBL : Hid (s.vBlocked = .slice none 0 0) := hbl
  have HSR : Hid (∀ v, v < s.n → isOut O v = false → s.source[v]? = some ((2 * ((linkPairs O (reachL s.n lk rows) s.n).length + (srcPairs O s.n v).length) : Nat) : Int)) := hsrc
  have HBN : Hid ((finPairs O (reachL s.n lk rows) s.n).length ≤ 400000) := hbnd
  clear h hrows hwin hlok ho hnet ht hbl hsrc hbnd hO hH HRE
  have hw1 : IntKind.i64.wrap (2 * (s.n : Int)) = 2 * s.n := by rw [IntKind.wrap_i64]; omega
  obtain ⟨V, hV⟩ : ∃ V : Nat, V = 2 * s.n + 1 := ⟨_, rfl⟩
  obtain ⟨L, hL⟩ : ∃ L : Nat, L = V * V := ⟨_, rfl⟩
  have hLb : L ≤ 513 * 513 := by rw [hL]; exact Nat.mul_le_mul (by omega) (by omega)
  have hwL : IntKind.i64.wrap ((V : Int) * (V : Int)) = (L : Int) := by rw [IntKind.wrap_i64, ← Int.natCast_mul, ← hL]; omega
  have HV : Hid (V = 2 * s.n + 1) := hV
  have HL : Hid (L = V * V) := hL
  have hVa : V ≤ 2 * s.n + 1 := by omega
  have hVb : 2 * s.n + 1 ≤ V := by omega
  clear hV hL
  obtain ⟨i0, hi0, hz0, hz1, hz2⟩ := info_parts Try.info21
  obtain ⟨j0, hj0, hy0, hy1, hy2⟩ := info_parts Try.info4
  go_enter Try.func17, Try.ntmps17
  go_wp2_with fail
  refine (outSet_any s.n i _ ws w HVW.out HWI.out hi hn).mono ?_
  rintro e w1 ⟨gO, rfl, rO, gl, b1⟩
  rw [HOE.out] at rO
  rw [outL_len]
  have RO : Hid (Rw w1 gO 4 (O.map .bool)) := rO
  have HB1 : Hid (Below H w w1) := by have := b1; rw [HH.out] at this; exact this
  have F1 : Hid (FinAt w1 T s) := HF.out.later b1
  clear rO b1
  rw [HH.out] at gl
  go_wp2_with fail
  refine (outLen_any F1.out).mono ?_
  rintro e w1' ⟨rfl, rfl⟩
  go_wp2
  go_loopw [14] (fun c wr => ∃ k : Nat, k ≤ s.n ∧ c = .int .i64 k ∧ Hid (Below H w wr ∧ Rw wr gO 4 (O.map .bool))) (fun c _ => s.n - (intOf c).toNat)
  case atStart => exact ⟨0, Nat.zero_le _, rfl, HB1.out, RO.out⟩
  case round =>
    as_aux_lemma =>
      obtain ⟨k, hk, rfl, hh⟩ := hrel
      clear HB1 RO F1
      have FR : Hid (FinAt wr T s) := HF.out.later (by rw [HH.out]; exact hh.out.1)
      by_cases hlt : k < s.n
      · have go : wr.cell? ⟨gO, k, none⟩ = some (.bool (isOut O k)) := by
          have := HOL.out
          rw [hh.out.2.cell]; simp [isOut, this, hlt]
        have hob : ∀ q, Calls Try.prog 44 #[.pointer (some ⟨s.F, 0, none⟩), .int .i64 k] (wr.drewN q) fun e w' => e = .returned (.bool (isOut O k)) ∧ w' = wr.drewN q := fun q => by
          have := out_any (FR.out.later (below_draws (Below.refl _ _) q)) k hlt
          rw [HSO.out] at this; exact this
        have HOB : Hid (∀ q, Calls Try.prog 44 #[.pointer (some ⟨s.F, 0, none⟩), .int .i64 k] (wr.drewN q) fun e w' => e = .returned (.bool (isOut O k)) ∧ w' = wr.drewN q) := hob
        clear hob
        have hh' : Hid (∀ q, Below H w (wr.drewN q) ∧ Rw (wr.drewN q) gO 4 (O.map .bool)) := fun q => ⟨below_draws hh.out.1 q, hh.out.2⟩
        generalize isOut O k = bo at *
        clear hh
        go_wp2
        go_quiet (first | (go_at_call 44; refine Calls.quiet_of_same (HOB.out _)))
        go_wp2
        go_roundw
        case rel => exact ⟨k + 1, by omega, by go_num, hh'.out _⟩
        case measure => simp [intOf]; omega
      · have HBR : Hid (Below H w wr) := hh.out.1
        have ROR : Hid (Rw wr gO 4 (O.map .bool)) := hh.out.2
        clear hh
        go_wp2_with fail
        refine (blockedNil_any FR.out none 0 0 HBL.out).mono ?_
        rintro e w2 ⟨rfl, rfl⟩
        simp only [Option.isNone_none]
        have htl : s.touched.length = 0 := by rw [HT0.out]; rfl
        go_wp2_with fail
        refine (touchedLen_any FR.out).mono ?_
        rintro e w3 ⟨rfl, rfl⟩
        rw [htl]
        go_wp2_with fail
        refine (nodeCount_any FR.out).mono ?_
        rintro e w4 ⟨rfl, rfl⟩
        have hVe : s.V = V := by rw [HV.out]; rfl
        have hVi : 2 * (s.n : Int) + 1 = (V : Int) := by omega
        rw [hVe, hVi]
        clear hVi
        go_wp2_with fail
        refine (arcs_any FR.out HAL.out).mono ?_
        rintro e w5 ⟨g1, g2, g3, g4, rfl, r1, r2, r3, r4, l1, l2, l3, l4, b5⟩
        obtain ⟨l, hl⟩ : ∃ l, s.arcs = l := ⟨_, rfl⟩
        rw [hl] at r1 r2 r3 r4
        have HLE : Hid (s.arcs = l) := hl
        obtain ⟨reach, hre⟩ : ∃ r, reachL s.n lk rows = r := ⟨_, rfl⟩
        have HRE : Hid (reachL s.n lk rows = reach) := hre
        rw [hre] at HPO HNE HSR HBN HRG
        obtain ⟨ps, hps⟩ : ∃ ps, finPairs O reach s.n = ps := ⟨_, rfl⟩
        have HPS : Hid (finPairs O reach s.n = ps) := hps
        rw [hps] at HPO HNE HBN
        have hll : l.length = 2 * ps.length := by
          have := netOf_arcs (2 * s.n + 1) ps
          rw [← HNE.out, hl] at this; exact this
        have hpb : ps.length ≤ 400000 := HBN.out
        obtain ⟨B, hB⟩ := size_name w5
        have HN : Hid (NI w H B O l gO g1 g2 g3 g4 w5) :=
          ⟨HBR.out.trans (b5.mono (by rw [← HH.out]; exact HBR.out.size)), by rw [← hB, ← HH.out]; exact Nat.le_trans HBR.out.size b5.size, by rw [← hB]; exact Nat.lt_of_lt_of_le ROR.out.lt b5.size, by rw [← hB]; exact r1.lt, by rw [← hB]; exact r2.lt, by rw [← hB]; exact r3.lt, by rw [← hB]; exact r4.lt,
            ROR.out.below b5 ROR.out.lt, r1, r2, r3, r4⟩
        have HSZ : Hid (w5.heap.size = B) := hB
        clear r1 r2 r3 r4 l1 l2 l3 l4 b5 hB FR HBR ROR hre hps
        rw [hl, hll]
        clear hl hVe htl
        simp only [at0]
        have hwp : (2 * (ps.length : Int)).tmod 2 = 0 := Int.mul_tmod_right _ _
        go_upto_region 18 with fail
        go_wp2_with (at_make; refine wpList_mk _ rfl _ _ _ rfl 21 i0 (.int .i32 0) 4 Try.underlying45 hi0 hz0 hz1 hz2 rfl _ _ _ _ L rfl rfl rfl rfl (by omega) (by unfold maxLen; omega) B HSZ.out ?_; intro w6 hr hb hsz)
        have HW : Hid (WI w H B V O l gO g1 g2 g3 g4 (linkPairs O reach 0 ++ srcPairs O s.n 0) w6) := ⟨HN.out.later hb, by
          have e : linkPairs O reach 0 ++ srcPairs O s.n 0 = [] := by simp [linkPairs, srcPairs]
          rw [e, wantL_nil, ← HL.out]; simpa using hr⟩
        clear HN hr hb hsz HSZ
        go_wp2
        go_loopw [22, 23] (fun t c wr => ∃ k : Nat, k ≤ s.n ∧ c = .int .i64 k ∧ t = .int .i64 ((linkPairs O reach k ++ srcPairs O s.n k).length : Nat) ∧ Hid (WI w H B V O l gO g1 g2 g3 g4 (linkPairs O reach k ++ srcPairs O s.n k) wr)) (fun _ c _ => s.n - (intOf c).toNat)
        case atStart => exact ⟨0, Nat.zero_le _, rfl, by simp [linkPairs, srcPairs], HW⟩
        case round =>
          as_aux_lemma =>
            obtain ⟨k, hk, rfl, rfl, W⟩ := hrel
            clear HW
            have hqb : (linkPairs O reach k ++ srcPairs O s.n k).length ≤ ps.length := by
              rw [← HPS.out]; unfold finPairs
              have h1 := linkPairs_mono O reach hk
              have h2 := srcPairs_mono O s.n hk
              simp only [List.length_append]; omega
            by_cases hlt : k < s.n
            · have go := W.out.ni.out (v := k) (by rw [HOL.out]; exact hlt)
              have hqb1 : (linkPairs O reach (k + 1) ++ srcPairs O s.n (k + 1)).length ≤ ps.length := by
                rw [← HPS.out]; unfold finPairs
                have h1 := linkPairs_mono O reach (k := k + 1) (n := s.n) (by omega)
                have h2 := srcPairs_mono O s.n (k := k + 1) (n := s.n) (by omega)
                simp only [List.length_append]; omega
              cases hok : isOut O k with
              | true =>
                rw [hok] at go
                have e : linkPairs O reach (k + 1) ++ srcPairs O s.n (k + 1) = linkPairs O reach k ++ srcPairs O s.n k := by
                  rw [linkPairs_succ, srcPairs_succ]
                  unfold genOf srcOf
                  rw [hok]; simp
                have HE : Hid (linkPairs O reach (k + 1) ++ srcPairs O s.n (k + 1) = linkPairs O reach k ++ srcPairs O s.n k) := e
                clear e hok hqb1
                go_wp2
                go_roundw
                case rel =>
                  refine ⟨k + 1, by omega, by go_num, ?_, ?_⟩
                  · rw [HE.out]
                  · rw [HE.out]; exact W
                case measure => simp [intOf]; omega
              | false =>
                rw [hok] at go
                obtain ⟨m1, hm1, hc1, hmb1, hwm1⟩ := key_eqs HV.out hn (a := 2 * k) (b := 2 * k + 1) (2 * (k : Int)) (by omega) (by omega) (by omega)
                obtain ⟨m2, hm2, hc2, hmb2, hwm2⟩ := key_eqs HV.out hn (a := 2 * s.n) (b := 2 * k) (2 * (s.n : Int)) (by omega) (by omega) (by omega)
                rw [← HL.out] at hc1 hc2
                have hgs : Hid (∀ c, cnt V ((linkPairs O reach k ++ srcPairs O s.n k) ++ [⟨2 * k, 2 * k + 1, 1, 0⟩] ++ [⟨2 * s.n, 2 * k, 0, 0⟩] ++ linkOf O k (reach k)) c = cnt V (linkPairs O reach (k + 1) ++ srcPairs O s.n (k + 1)) c) := by
                  intro c
                  have e1 : genOf O reach k = [⟨2 * k, 2 * k + 1, 1, 0⟩] ++ linkOf O k (reach k) := by unfold genOf; rw [hok]; rfl
                  have e2 : srcOf O s.n k = [⟨2 * s.n, 2 * k, 0, 0⟩] := by unfold srcOf; rw [hok]; rfl
                  rw [linkPairs_succ, srcPairs_succ, e1, e2]
                  simp only [cnt_append]
                  omega
                have hgl : Hid ((linkPairs O reach k ++ srcPairs O s.n k).length + 2 + (linkOf O k (reach k)).length = (linkPairs O reach (k + 1) ++ srcPairs O s.n (k + 1)).length) := by
                  show _ = _
                  have e1 : genOf O reach k = [⟨2 * k, 2 * k + 1, 1, 0⟩] ++ linkOf O k (reach k) := by unfold genOf; rw [hok]; rfl
                  have e2 : srcOf O s.n k = [⟨2 * s.n, 2 * k, 0, 0⟩] := by unfold srcOf; rw [hok]; rfl
                  rw [linkPairs_succ, srcPairs_succ, e1, e2]
                  simp only [List.length_append, List.length_cons, List.length_nil]
                  omega
                have hgb := hgl.out
                obtain ⟨qs, hqs⟩ : ∃ qs, linkPairs O reach k ++ srcPairs O s.n k = qs := ⟨_, rfl⟩
                rw [hqs] at W hqb hgs hgl hgb
                simp only [hqs]
                clear hok hqs
                obtain ⟨x1, cx1, fx1, wx1, W1⟩ := W.out.ready ⟨2 * k, 2 * k + 1, 1, 0⟩ (m1 + 2 * k + 1) (by show 2 * k * V + (2 * k + 1) = _; rw [hm1]; omega) (by rw [← HL.out]; omega) (by omega)
                have W1' : Hid (WI w H B V O l gO g1 g2 g3 g4 (qs ++ [⟨2 * k, 2 * k + 1, 1, 0⟩]) (wr.setCell ⟨B, m1 + 2 * k + 1, none⟩ (.int .i32 ((x1 : Int) + 1)))) := W1
                clear W1 hm1
                go_upto_region 25 with fail
                generalize (wr.setCell ⟨B, m1 + 2 * k + 1, none⟩ (.int .i32 ((x1 : Int) + 1))) = wa1 at *
                clear cx1 fx1 wx1 W go
                obtain ⟨x2, cx2, fx2, wx2, W2⟩ := W1'.out.ready ⟨2 * s.n, 2 * k, 0, 0⟩ (m2 + 2 * k) (by show 2 * s.n * V + 2 * k = _; rw [hm2]) (by rw [← HL.out]; omega) (by simp; omega)
                have W2' : Hid (WI w H B V O l gO g1 g2 g3 g4 (qs ++ [⟨2 * k, 2 * k + 1, 1, 0⟩] ++ [⟨2 * s.n, 2 * k, 0, 0⟩]) (wa1.setCell ⟨B, m2 + 2 * k, none⟩ (.int .i32 ((x2 : Int) + 1)))) := W2
                clear W2 W1' hm2
                go_upto_region 27 with fail
                generalize (wa1.setCell ⟨B, m2 + 2 * k, none⟩ (.int .i32 ((x2 : Int) + 1))) = wa2 at *
                clear cx2 fx2 wx2
                obtain ⟨bs, hbs⟩ : ∃ bs, qs ++ [(⟨2 * k, 2 * k + 1, 1, 0⟩ : Pr)] ++ [(⟨2 * s.n, 2 * k, 0, 0⟩ : Pr)] = bs := ⟨_, rfl⟩
                have hbl : bs.length = qs.length + 2 := by rw [← hbs]; simp
                rw [hbs] at hgs
                have W3 : Hid (WI w H B V O l gO g1 g2 g3 g4 bs wa2) := by rw [← hbs]; exact W2'
                clear W2' hbs
                cases lk with
                | true =>
                  by_cases hkr : k < rows.length
                  · obtain ⟨b, off, rv, rfl, hcr, hkv⟩ := HVL.out k hkr
                    obtain ⟨zs, hzs⟩ : ∃ zs, rows[k] = zs := ⟨_, rfl⟩
                    rw [hzs] at hkv
                    obtain ⟨za, zc, rfl, hzm, _, hcz⟩ := hkv
                    unfold maxLen at hzm
                    have hbH : b < H := by rw [← HH.out]; exact cell_at hcr
                    have HCR : Hid (w.cell? ⟨b, off + k, none⟩ = some (.slice za zs.length zc)) := hcr
                    have HCZ : Hid (∀ i, (hi : i < zs.length) → ∃ b off, za = some ⟨b, off, none⟩ ∧ w.cell? ⟨b, off + i, none⟩ = some (.int .i64 zs[i])) := hcz
                    have HZS : Hid (reach k = zs) := by
                      show _ = _
                      rw [← HRE.out, ← hzs]; simp [reachL, hkr]
                    have HZG : Hid (∀ j, (h : j < zs.length) → 0 ≤ zs[j] ∧ zs[j] < s.n) := by
                      intro j hj
                      have := HRG.out k hlt j (by rw [HZS.out]; exact hj)
                      simpa only [HZS.out] using this
                    have hgb' : (linkOf O k zs).length ≤ 400000 := by rw [← HZS.out]; omega
                    clear hcr hcz hzs
                    go_wp2
                    go_loopw [22, 24] (fun t c wr => ∃ j : Nat, j ≤ zs.length ∧ c = .int .i64 j ∧ t = .int .i64 ((bs.length + (linkOf O k (zs.take j)).length : Nat) : Int) ∧ Hid (WI w H B V O l gO g1 g2 g3 g4 (bs ++ linkOf O k (zs.take j)) wr)) (fun _ c _ => zs.length - (intOf c).toNat)
                    case atStart => exact ⟨0, Nat.zero_le _, rfl, by simp [linkOf, hbl], by rw [List.take_zero]; simp only [linkOf, List.filter_nil, List.map_nil, List.append_nil]; exact W3⟩
                    case round =>
                      as_aux_lemma =>
                        obtain ⟨j, hj, rfl, rfl, WJ⟩ := hrel
                        clear W3
                        have hjb : (linkOf O k (zs.take j)).length ≤ (linkOf O k zs).length := linkOf_take_le O k zs j
                        have hcr : wr.cell? ⟨b, off + k, none⟩ = some (.slice za zs.length zc) := by rw [(bcell WJ.out.ni.b).1 b (off + k) hbH]; exact HCR.out
                        by_cases hjl : j < zs.length
                        · obtain ⟨z, hz⟩ : ∃ z : Nat, zs[j] = (z : Int) := Int.eq_ofNat_of_zero_le (HZG.out j hjl).1
                          have hzn : z < s.n := by have := (HZG.out j hjl).2; omega
                          obtain ⟨zb, zo, rfl, hcz⟩ : ∃ zb zo, za = some ⟨zb, zo, none⟩ ∧ wr.cell? ⟨zb, zo + j, none⟩ = some (.int .i64 (z : Int)) := by
                            obtain ⟨zb, zo, e1, e2⟩ := HCZ.out j hjl
                            rw [hz] at e2
                            exact ⟨zb, zo, e1, by rw [(bcell WJ.out.ni.b).1 zb (zo + j) (by rw [← HH.out]; exact cell_at e2)]; exact e2⟩
                          have go := WJ.out.ni.out (v := z) (by rw [HOL.out]; exact hzn)
                          have HT : Hid _ := linkOf_take O k zs j hjl
                          rw [hz, Int.toNat_natCast] at HT
                          clear hz
                          by_cases hzk : z = k
                          · have hbq : ((z : Int) != (k : Int)) = false := by rw [bne_eq_false_iff_eq]; omega
                            have HT' : Hid (linkOf O k (zs.take (j + 1)) = linkOf O k (zs.take j)) := by
                              show _ = _
                              rw [HT.out, hbq]; simp only [Bool.false_and, Bool.false_eq_true, if_false, List.append_nil]
                            clear HT
                            go_wp2
                            go_roundw
                            case rel =>
                              refine ⟨j + 1, by omega, by go_num, ?_, ?_⟩
                              · rw [HT'.out]
                              · rw [HT'.out]; exact WJ
                            case measure => simp [intOf]; omega
                          · have hbq : ((z : Int) != (k : Int)) = true := by rw [bne_iff_ne]; omega
                            cases ho2 : isOut O z with
                            | true =>
                              rw [ho2] at go
                              have HT' : Hid (linkOf O k (zs.take (j + 1)) = linkOf O k (zs.take j)) := by
                                show _ = _
                                rw [HT.out, ho2]; simp only [Bool.not_true, Bool.and_false, Bool.false_eq_true, if_false, List.append_nil]
                              clear HT ho2
                              go_wp2
                              go_roundw
                              case rel =>
                                refine ⟨j + 1, by omega, by go_num, ?_, ?_⟩
                                · rw [HT'.out]
                                · rw [HT'.out]; exact WJ
                              case measure => simp [intOf]; omega
                            | false =>
                              rw [ho2] at go
                              have HT' : Hid (linkOf O k (zs.take (j + 1)) = linkOf O k (zs.take j) ++ [⟨2 * k + 1, 2 * z, 1, 1⟩]) := by
                                show _ = _
                                rw [HT.out, hbq, ho2]; simp only [Bool.not_false, Bool.and_self, if_true]
                              clear HT ho2
                              obtain ⟨m3, hm3, hc3, hmb3, hwm3⟩ := key_eqs HV.out hn (a := 2 * k + 1) (b := 2 * z) (2 * (k : Int) + 1) (by omega) (by omega) (by omega)
                              rw [← HL.out] at hc3
                              obtain ⟨x3, cx3, fx3, wx3, W4⟩ := WJ.out.ready ⟨2 * k + 1, 2 * z, 1, 1⟩ (m3 + 2 * z) (by show (2 * k + 1) * V + 2 * z = _; rw [hm3]) (by rw [← HL.out]; omega) (by rw [List.length_append]; omega)
                              have W4' : Hid (WI w H B V O l gO g1 g2 g3 g4 (bs ++ linkOf O k (zs.take (j + 1))) (wr.setCell ⟨B, m3 + 2 * z, none⟩ (.int .i32 ((x3 : Int) + 1)))) := by
                                rw [HT'.out, ← List.append_assoc]; exact W4
                              clear W4 hm3 WJ
                              go_wp2
                              go_roundw
                              case rel =>
                                refine ⟨j + 1, by omega, by go_num, ?_, W4'⟩
                                rw [HT'.out, List.length_append]
                                exact congrArg (Value.int IntKind.i64) (by simp; omega)
                              case measure => simp [intOf]; omega
                        · have WE : Hid (WI w H B V O l gO g1 g2 g3 g4 (linkPairs O reach (k + 1) ++ srcPairs O s.n (k + 1)) wr) := by
                            have h := WJ.out
                            rw [List.take_of_length_le (by omega)] at h
                            exact h.congr (fun c => by rw [← HZS.out]; exact hgs.out c)
                          have hte : bs.length + (linkOf O k (zs.take j)).length = (linkPairs O reach (k + 1) ++ srcPairs O s.n (k + 1)).length := by
                            rw [List.take_of_length_le (by omega), ← HZS.out]; have := hgl.out; omega
                          have HTE : Hid _ := hte
                          clear WJ hte
                          go_wp2
                          go_roundw
                          case rel =>
                            refine ⟨k + 1, by omega, by go_num, ?_, WE⟩
                            rw [HTE.out]
                          case measure => simp [intOf]; omega
                  · have HZS : Hid (reach k = []) := by
                      show _ = _
                      rw [← HRE.out]; simp [reachL, List.getElem?_eq_none (by omega : rows.length ≤ k)]
                    have WE : Hid (WI w H B V O l gO g1 g2 g3 g4 (linkPairs O reach (k + 1) ++ srcPairs O s.n (k + 1)) wa2) := by
                      refine W3.out.congr (fun c => ?_)
                      have := hgs.out c
                      rw [HZS.out] at this
                      simpa only [linkOf, List.filter_nil, List.map_nil, List.append_nil] using this
                    have hte : qs.length + 2 = (linkPairs O reach (k + 1) ++ srcPairs O s.n (k + 1)).length := by
                      have := hgl.out
                      rw [HZS.out] at this
                      simpa [linkOf] using this
                    have HTE : Hid (qs.length + 2 = (linkPairs O reach (k + 1) ++ srcPairs O s.n (k + 1)).length) := hte
                    clear W3 hte
                    go_wp2
                    go_roundw
                    case rel =>
                      refine ⟨k + 1, by omega, by go_num, ?_, WE⟩
                      rw [← HTE.out]; rfl
                    case measure => simp [intOf]; omega
                | false =>
                  obtain ⟨zs, hzs⟩ : ∃ zs, upTo s.n = zs := ⟨_, rfl⟩
                  have hzl : zs.length = s.n := by rw [← hzs]; simp [upTo]
                  have HZS : Hid (reach k = zs) := by
                    show _ = _
                    rw [← HRE.out, ← hzs]; rfl
                  have HZG : Hid (∀ j, (h : j < zs.length) → 0 ≤ zs[j] ∧ zs[j] < s.n) := by
                    intro j hj
                    have := HRG.out k hlt j (by rw [HZS.out]; exact hj)
                    simpa only [HZS.out] using this
                  have HZJ : Hid (∀ j, (h : j < zs.length) → zs[j] = (j : Int)) := by
                    intro j hj
                    subst hzs
                    simp [upTo]
                  have hgb' : (linkOf O k zs).length ≤ 400000 := by rw [← HZS.out]; omega
                  clear hzs
                  go_wp2
                  go_loopw [22, 26] (fun t c wr => ∃ j : Nat, j ≤ zs.length ∧ c = .int .i64 j ∧ t = .int .i64 ((bs.length + (linkOf O k (zs.take j)).length : Nat) : Int) ∧ Hid (WI w H B V O l gO g1 g2 g3 g4 (bs ++ linkOf O k (zs.take j)) wr)) (fun _ c _ => zs.length - (intOf c).toNat)
                  case atStart => exact ⟨0, Nat.zero_le _, rfl, by simp [linkOf, hbl], by rw [List.take_zero]; simp only [linkOf, List.filter_nil, List.map_nil, List.append_nil]; exact W3⟩
                  case round =>
                    as_aux_lemma =>
                      obtain ⟨j, hj, rfl, rfl, WJ⟩ := hrel
                      clear W3
                      have hjb : (linkOf O k (zs.take j)).length ≤ (linkOf O k zs).length := linkOf_take_le O k zs j
                      have hzl2 : zs.length = s.n := hzl
                      by_cases hjl : j < zs.length
                      · obtain ⟨z, hz⟩ : ∃ z : Nat, zs[j] = (z : Int) := Int.eq_ofNat_of_zero_le (HZG.out j hjl).1
                        have hzn : z < s.n := by have := (HZG.out j hjl).2; omega
                        have hzj : z = j := by have := HZJ.out j hjl; omega
                        subst hzj
                        have go := WJ.out.ni.out (v := z) (by rw [HOL.out]; exact hzn)
                        have HT : Hid _ := linkOf_take O k zs z hjl
                        rw [hz, Int.toNat_natCast] at HT
                        clear hz
                        by_cases hzk : z = k
                        · have hbq : ((z : Int) != (k : Int)) = false := by rw [bne_eq_false_iff_eq]; omega
                          have HT' : Hid (linkOf O k (zs.take (z + 1)) = linkOf O k (zs.take z)) := by
                            show _ = _
                            rw [HT.out, hbq]; simp only [Bool.false_and, Bool.false_eq_true, if_false, List.append_nil]
                          clear HT
                          go_wp2
                          go_roundw
                          case rel =>
                            refine ⟨z + 1, by omega, by go_num, ?_, ?_⟩
                            · rw [HT'.out]
                            · rw [HT'.out]; exact WJ
                          case measure => simp [intOf]; omega
                        · have hbq : ((z : Int) != (k : Int)) = true := by rw [bne_iff_ne]; omega
                          cases ho2 : isOut O z with
                          | true =>
                            rw [ho2] at go
                            have HT' : Hid (linkOf O k (zs.take (z + 1)) = linkOf O k (zs.take z)) := by
                              show _ = _
                              rw [HT.out, ho2]; simp only [Bool.not_true, Bool.and_false, Bool.false_eq_true, if_false, List.append_nil]
                            clear HT ho2
                            go_wp2
                            go_roundw
                            case rel =>
                              refine ⟨z + 1, by omega, by go_num, ?_, ?_⟩
                              · rw [HT'.out]
                              · rw [HT'.out]; exact WJ
                            case measure => simp [intOf]; omega
                          | false =>
                            rw [ho2] at go
                            have HT' : Hid (linkOf O k (zs.take (z + 1)) = linkOf O k (zs.take z) ++ [⟨2 * k + 1, 2 * z, 1, 1⟩]) := by
                              show _ = _
                              rw [HT.out, hbq, ho2]; simp only [Bool.not_false, Bool.and_self, if_true]
                            clear HT ho2
                            obtain ⟨m3, hm3, hc3, hmb3, hwm3⟩ := key_eqs HV.out hn (a := 2 * k + 1) (b := 2 * z) (2 * (k : Int) + 1) (by omega) (by omega) (by omega)
                            rw [← HL.out] at hc3
                            obtain ⟨x3, cx3, fx3, wx3, W4⟩ := WJ.out.ready ⟨2 * k + 1, 2 * z, 1, 1⟩ (m3 + 2 * z) (by show (2 * k + 1) * V + 2 * z = _; rw [hm3]) (by rw [← HL.out]; omega) (by rw [List.length_append]; omega)
                            have W4' : Hid (WI w H B V O l gO g1 g2 g3 g4 (bs ++ linkOf O k (zs.take (z + 1))) (wr.setCell ⟨B, m3 + 2 * z, none⟩ (.int .i32 ((x3 : Int) + 1)))) := by
                              rw [HT'.out, ← List.append_assoc]; exact W4
                            clear W4 hm3 WJ
                            go_wp2
                            go_roundw
                            case rel =>
                              refine ⟨z + 1, by omega, by go_num, ?_, W4'⟩
                              rw [HT'.out, List.length_append]
                              exact congrArg (Value.int IntKind.i64) (by simp; omega)
                            case measure => simp [intOf]; omega
                      · have WE : Hid (WI w H B V O l gO g1 g2 g3 g4 (linkPairs O reach (k + 1) ++ srcPairs O s.n (k + 1)) wr) := by
                          have h := WJ.out
                          rw [List.take_of_length_le (by omega)] at h
                          exact h.congr (fun c => by rw [← HZS.out]; exact hgs.out c)
                        have hte : bs.length + (linkOf O k (zs.take j)).length = (linkPairs O reach (k + 1) ++ srcPairs O s.n (k + 1)).length := by
                          rw [List.take_of_length_le (by omega), ← HZS.out]; have := hgl.out; omega
                        have HTE : Hid _ := hte
                        clear WJ hte
                        go_wp2
                        go_roundw
                        case rel =>
                          refine ⟨k + 1, by omega, by go_num, ?_, WE⟩
                          rw [HTE.out]
                        case measure => simp [intOf]; omega
            · have hkn : k = s.n := by omega
              subst hkn
              have e : linkPairs O reach s.n ++ srcPairs O s.n s.n = ps := HPS.out
              have W0 : Hid (WI w H B V O l gO g1 g2 g3 g4 (ps.drop 0) wr) := by rw [List.drop_zero, ← e]; exact W
              simp only [e]
              clear W hqb e
              go_wp2
              go_loopw [27] (fun c wr => ∃ k : Nat, k ≤ ps.length ∧ c = .int .i64 (2 * (k : Int)) ∧ Hid (WI w H B V O l gO g1 g2 g3 g4 (ps.drop k) wr)) (fun c _ => 2 * ps.length - (intOf c).toNat)
              case atStart => exact ⟨0, Nat.zero_le _, rfl, W0⟩
              case round =>
                as_aux_lemma =>
                  obtain ⟨k, hk, rfl, W⟩ := hrel
                  clear W0
                  by_cases hlt : k < ps.length
                  · have hpo := HPO.out ps[k] (List.getElem_mem hlt)
                    have hae := netOf_even (2 * s.n + 1) ps hlt
                    have hdr : ps.drop k = ps[k] :: ps.drop (k + 1) := List.drop_eq_getElem_cons hlt
                    rw [← HNE.out] at hae
                    have W' := W.out
                    rw [hdr] at W'
                    have hlb : (ps.drop (k + 1)).length ≤ 400000 := by simp; omega
                    generalize ps[k] = p at *
                    obtain ⟨pa, pb, pf, pc⟩ := p
                    obtain ⟨ha, hb, hf, hc⟩ := hpo
                    have ha' : pa < V := by rw [HV.out]; exact ha
                    have hb' : pb < V := by rw [HV.out]; exact hb
                    have hf' : pf = if pa = 2 * s.n then 0 else 1 := hf
                    have hc' : pc = if pa = 2 * s.n then 0 else if pa % 2 = 0 then 0 else 1 := hc
                    clear ha hb hf hc
                    have hae1 : l[2 * k]? = some ⟨pb, pf, pf, pc⟩ := by rw [← HLE.out]; exact hae.1
                    have hae2 : l[2 * k + 1]? = some ⟨pa, 0, 0, -pc⟩ := by rw [← HLE.out]; exact hae.2
                    obtain ⟨c11, c12, c13, c14⟩ := W.out.ni.arc hae1
                    obtain ⟨c21, c22, c23, c24⟩ := W.out.ni.arc hae2
                    obtain ⟨m, hm, hcm, hmb, hwm⟩ := key_eqs HV.out hn (a := pa) (b := pb) (pa : Int) rfl ha' hb'
                    rw [← HL.out] at hcm
                    obtain ⟨x, hx1, cx, fx, wx, _⟩ := W'.take (m + pb) (by show pa * V + pb = _; rw [hm]) (by rw [← HL.out]; exact hcm) (by omega)
                    have HQ : Hid (∀ q, WI w H B V O l gO g1 g2 g3 g4 (ps.drop (k + 1)) ((wr.drewN q).setCell ⟨B, m + pb, none⟩ (.int .i32 ((x : Int) - 1)))) := by
                      intro q
                      obtain ⟨x', hx', cx', _, _, hw⟩ := (W'.later (below_draws (Below.refl _ _) q)).take (m + pb) (by show pa * V + pb = _; rw [hm]) (by rw [← HL.out]; exact hcm) (by omega)
                      have ex : x' = x := by
                        have e1 : (wr.drewN q).cell? ⟨B, m + pb, none⟩ = wr.cell? ⟨B, m + pb, none⟩ := rfl
                        rw [e1, cx] at cx'
                        injection cx' with e2
                        injection e2 with _ e3
                        omega
                      rw [ex] at hw; exact hw
                    clear W W' hdr hae hae1 hae2 hm
                    simp only [] at c11 c12 c13 c14 c21 c22 c23 c24
                    have hpc : IntKind.i8.wrap (-pc) = -pc := by
                      rw [hc']
                      split
                      · rfl
                      · split <;> rfl
                    go_upto_region 51 with fail
                    go_quiet (fail)
                    clear c12 c22 c23 c24 c11 c21 hpc
                    go_upto_region 54 with fail
                    by_cases h1 : pa = 2 * s.n
                    · rw [if_pos h1] at hf' hc'
                      subst hf' hc' h1
                      have hwm' : IntKind.i64.wrap (2 * (s.n : Int) * (V : Int)) = (m : Int) := by rw [← hwm]; simp
                      clear hwm
                      go_wp2
                      go_roundw
                      case rel => exact ⟨k + 1, by omega, by go_num, HQ.out _⟩
                      case measure => simp [intOf]; omega
                    · rw [if_neg h1] at hf' hc'
                      have h1' : ¬ (pa : Int) = 2 * (s.n : Int) := by omega
                      by_cases h2 : pa % 2 = 0
                      · rw [if_pos h2] at hc'
                        subst hf' hc'
                        have h2' : (pa : Int).tmod 2 = 0 := by rw [Int.tmod_eq_emod_of_nonneg (by omega)]; omega
                        go_wp2
                        go_roundw
                        case rel => exact ⟨k + 1, by omega, by go_num, HQ.out _⟩
                        case measure => simp [intOf]; omega
                      · rw [if_neg h2] at hc'
                        subst hf' hc'
                        have h2' : (pa : Int).tmod 2 = 1 := by rw [Int.tmod_eq_emod_of_nonneg (by omega)]; omega
                        go_wp2
                        go_roundw
                        case rel => exact ⟨k + 1, by omega, by go_num, HQ.out _⟩
                        case measure => simp [intOf]; omega
                  · have hkp : k = ps.length := by omega
                    subst hkp
                    obtain ⟨S, hS⟩ := size_name wr
                    have hBS : B < S := by rw [← hS]; exact W.out.want.lt
                    have HSZ : Hid (wr.heap.size = S) := hS
                    have HN3 : Hid (NI w H S O l gO g1 g2 g3 g4 wr) := W.out.ni.raise (by omega)
                    clear W hS
                    go_wp2_with (at_make; refine wpList_mk _ rfl _ _ _ rfl 4 j0 (.bool false) 1 Try.underlying36 hj0 hy0 hy1 hy2 rfl _ _ _ _ (2 * ps.length) rfl rfl (by omega) (by omega) (by omega) (by unfold maxLen; omega) S HSZ.out ?_; intro w7 hr hb hsz)
                    have HS0 : Hid (NI w H S O l gO g1 g2 g3 g4 w7 ∧ Rw w7 S 4 ((seenL ps 0 []).map .bool)) := ⟨HN3.out.later hb, by rw [seenL_zero]; simpa using hr⟩
                    clear HN3 hr hb hsz HSZ
                    go_wp2
                    go_loopw [33, 34] (fun t c wr => ∃ x : Nat, x ≤ V ∧ c = .int .i64 x ∧ t = .int .i64 (((seenL ps x []).count true : Nat) : Int) ∧ Hid (NI w H S O l gO g1 g2 g3 g4 wr ∧ Rw wr S 4 ((seenL ps x []).map .bool))) (fun _ c _ => V - (intOf c).toNat)
                    case atStart => exact ⟨0, Nat.zero_le _, rfl, by rw [seenL_zero]; simp [List.count_replicate], HS0⟩
                    case round =>
                      as_aux_lemma =>
                        obtain ⟨x, hx, rfl, rfl, HX⟩ := hrel
                        clear HS0
                        have hcl : (seenL ps x []).count true ≤ 2 * ps.length := by have := List.count_le_length (a := true) (l := seenL ps x []); rw [seenL_len] at this; exact this
                        have FR : Hid (FinAt wr T s) := HF.out.later (by rw [HH.out]; exact HX.out.1.b)
                        by_cases hlt : x < V
                        · have hxs : x < s.V := by rw [show s.V = V from HV.out.symm]; exact hlt
                          have hrow : s.row x = rowL ps x := by
                            have h1 := netOf_rows (2 * s.n + 1) ps (fun p hp => ⟨(HPO.out p hp).a, (HPO.out p hp).b⟩) x (by rw [← HV.out]; exact hlt)
                            rw [← HNE.out] at h1; exact h1
                          obtain ⟨zs, hzs⟩ : ∃ zs, rowL ps x = zs := ⟨_, rfl⟩
                          have HZS : Hid (rowL ps x = zs) := hzs
                          have HRW : Hid (s.row x = zs) := by rw [← hzs]; exact hrow
                          have HSX : Hid (x < s.V) := hxs
                          clear hrow hzs hxs
                          go_wp2_with fail
                          refine (nodeLen_any FR.out x HSX.out).mono ?_
                          rintro e w8 ⟨rfl, rfl⟩
                          rw [HRW.out]
                          have hzl : zs.length ≤ 800000 := by
                            rw [← HZS.out]; unfold rowL
                            have h1 := List.length_filter_le (fun a => tailOf ps a == x) (List.range (2 * ps.length))
                            rw [List.length_range] at h1
                            rw [List.length_map]; omega
                          go_wp2
                          go_loopw [33, 36] (fun t c wr => ∃ j : Nat, j ≤ zs.length ∧ c = .int .i64 j ∧ t = .int .i64 (((seenL ps x (zs.take j)).count true : Nat) : Int) ∧ Hid (NI w H S O l gO g1 g2 g3 g4 wr ∧ Rw wr S 4 ((seenL ps x (zs.take j)).map .bool))) (fun _ c _ => zs.length - (intOf c).toNat)
                          case atStart => exact ⟨0, Nat.zero_le _, rfl, rfl, HX⟩
                          case round =>
                            as_aux_lemma =>
                              obtain ⟨j, hj, rfl, rfl, HJ⟩ := hrel
                              clear HX FR
                              have FR : Hid (FinAt wr T s) := HF.out.later (by rw [HH.out]; exact HJ.out.1.b)
                              by_cases hjl : j < zs.length
                              · obtain ⟨a, ha1, ha2, ha3, ha4, ha5⟩ := seenL_step ps x j (by rw [HZS.out]; exact hjl)
                                simp only [HZS.out] at ha1 ha4 ha5
                                have hct := seenL_count_step ha4
                                rw [ha5] at hct
                                have HCT : Hid (List.count true (seenL ps x (zs.take (j + 1))) = List.count true (seenL ps x (zs.take j)) + 1) := hct
                                have hcl2 : (seenL ps x (zs.take j)).count true ≤ 2 * ps.length := by have := List.count_le_length (a := true) (l := seenL ps x (zs.take j)); rw [seenL_len] at this; exact this
                                have hsa : wr.cell? ⟨S, a, none⟩ = some (.bool false) := by rw [HJ.out.2.cell, List.getElem?_map, ha4]; rfl
                                have hsf : wr.frozen? ⟨S, a, none⟩ = false := HJ.out.2.frozen a
                                have hgd : (s.row x).getD j 0 = (a : Int) := by rw [HRW.out]; simp [hjl, ha1]
                                obtain ⟨tw, htw⟩ : ∃ tw : Nat, tw = if a % 2 = 0 then a + 1 else a - 1 := ⟨_, rfl⟩
                                have htwb : tw < 2 * ps.length := by rw [htw]; split <;> omega
                                have hxo : bits .xor .i64 (a : Int) 1 = (tw : Int) := by rw [htw]; exact bits_xor_one a (by omega)
                                have hth : wr.cell? ⟨g1, tw, none⟩ = some (.int .i32 (x : Int)) := by
                                  obtain ⟨r, f, c, h⟩ := netOf_twin (2 * s.n + 1) ps ha2
                                  rw [← htw, ha3, ← HNE.out] at h
                                  exact (HJ.out.1.arc (by rw [← HLE.out]; exact h)).1
                                have hgS : ¬ g1 = S := by have := HJ.out.1.l1; omega
                                have HN : Hid (NI w H S O l gO g1 g2 g3 g4 (wr.setCell ⟨S, a, none⟩ (.bool true)) ∧ Rw (wr.setCell ⟨S, a, none⟩ (.bool true)) S 4 ((seenL ps x (zs.take (j + 1))).map .bool)) := by
                                  refine ⟨HJ.out.1.set (Nat.le_refl _) _, ?_⟩
                                  rw [← ha5, List.map_set]; exact HJ.out.2.set a _
                                have HGD : Hid ((s.row x).getD j 0 = (a : Int)) := hgd
                                have HJR : Hid (j < (s.row x).length) := by rw [HRW.out]; exact hjl
                                clear ha1 ha3 ha4 ha5 hct htw hgd HJ
                                go_wp2_with fail
                                refine (nodeArc_any FR.out x j HSX.out HJR.out).mono ?_
                                rintro e w9 ⟨rfl, rfl⟩
                                rw [HGD.out]
                                clear FR
                                go_wp2
                                go_roundw
                                case rel =>
                                  refine ⟨j + 1, by omega, by go_num, ?_, HN⟩
                                  rw [HCT.out]; rfl
                                case measure => simp [intOf]; omega
                              · have HE : Hid (NI w H S O l gO g1 g2 g3 g4 wr ∧ Rw wr S 4 ((seenL ps (x + 1) []).map .bool)) := by
                                  have h := HJ.out
                                  rw [List.take_of_length_le (by omega), ← HZS.out, seenL_row] at h
                                  exact h
                                have HCE : Hid (seenL ps x (zs.take j) = seenL ps (x + 1) []) := by
                                  show _ = _
                                  rw [List.take_of_length_le (by omega), ← HZS.out, seenL_row]
                                clear HJ FR
                                go_wp2
                                go_roundw
                                case rel =>
                                  refine ⟨x + 1, by omega, by go_num, ?_, HE⟩
                                  rw [HCE.out]
                                case measure => simp [intOf]; omega
                        · have hxV : x = V := by omega
                          subst hxV
                          have hce : (seenL ps x []).count true = 2 * ps.length := seenL_count_all ps x (fun a ha => by rw [HV.out]; exact tailOf_lt s.n ps HPO.out ha)
                          have HN8 : Hid (NI w H S O l gO g1 g2 g3 g4 wr) := HX.out.1
                          rw [hce, show ((2 * ps.length : Nat) : Int) = 2 * (ps.length : Int) by omega]
                          clear HX FR hcl hce
                          go_wp2
                          go_loopw [38] (fun c wr => ∃ v : Nat, v ≤ s.n ∧ c = .int .i64 v ∧ Hid (NI w H S O l gO g1 g2 g3 g4 wr)) (fun c _ => s.n - (intOf c).toNat)
                          case atStart => exact ⟨0, Nat.zero_le _, rfl, HN8⟩
                          case round =>
                            as_aux_lemma =>
                              obtain ⟨v, hv, rfl, N⟩ := hrel
                              clear HN8
                              by_cases hvl : v < s.n
                              · have go := N.out.out (v := v) (by rw [HOL.out]; exact hvl)
                                cases hov : isOut O v with
                                | true =>
                                  rw [hov] at go
                                  clear hov
                                  go_wp2
                                  go_roundw
                                  case rel => exact ⟨v + 1, by omega, by go_num, N⟩
                                  case measure => simp [intOf]; omega
                                | false =>
                                  rw [hov] at go
                                  have hs1 := HSR.out v hvl hov
                                  have hs2 := finPairs_src O reach s.n hvl hov
                                  rw [HPS.out] at hs2
                                  obtain ⟨q, hq⟩ : ∃ q, (linkPairs O reach s.n).length + (srcPairs O s.n v).length = q := ⟨_, rfl⟩
                                  rw [hq] at hs1 hs2
                                  obtain ⟨hql, hqe⟩ := List.getElem?_eq_some_iff.1 hs2
                                  have hae := netOf_even (2 * s.n + 1) ps hql
                                  rw [hqe, ← HNE.out] at hae
                                  have hc1 : wr.cell? ⟨g1, 2 * q, none⟩ = some (.int .i32 (2 * (v : Int))) := (N.out.arc (by rw [← HLE.out]; exact hae.1)).1
                                  have hc2 : wr.cell? ⟨g1, 2 * q + 1, none⟩ = some (.int .i32 (2 * (s.n : Int))) := (N.out.arc (by rw [← HLE.out]; exact hae.2)).1
                                  have HGD : Hid (s.source.getD v 0 = 2 * (q : Int)) := by show _ = _; rw [List.getD_eq_getElem?_getD, hs1]; simp
                                  have FR : Hid (FinAt wr T s) := HF.out.later (by rw [HH.out]; exact N.out.b)
                                  have hqm : (2 * (q : Int)).tmod 2 = 0 := Int.mul_tmod_right _ _
                                  clear hov hs1 hs2 hq hqe hae
                                  go_wp2_with fail
                                  refine (source_any FR.out v hvl).mono ?_
                                  rintro e w9 ⟨rfl, rfl⟩
                                  rw [HGD.out]
                                  clear FR
                                  go_wp2
                                  go_roundw
                                  case rel => exact ⟨v + 1, by omega, by go_num, N⟩
                                  case measure => simp [intOf]; omega
                              · have hfin : Hid (NisR w (.returned (.bool true)) wr) := ⟨rfl, by rw [HH.out]; exact N.out.b⟩
                                clear N
                                go_wp2
                                go_ret
                                exact hfin.out
end Go.Proofs.Qxb6605292a
