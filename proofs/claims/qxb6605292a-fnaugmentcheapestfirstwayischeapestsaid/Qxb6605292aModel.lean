/-
  zzModel (f31).
-/
import Derived.Test.Qxb6605292aStar
import Derived.Test.Qxb6605292aBnd
namespace Go.Proofs.Qxb6605292a
open Go.RowKit

def msrcOf (S : List Bool) (n sink : Nat) (dr : Bool) (v : Nat) : List Pr := if S.getD v false && (dr || decide (2 * v ≠ sink)) then [⟨2 * n, 2 * v, 1, 0⟩] else []
def msrc (S : List Bool) (n sink : Nat) (dr : Bool) (k : Nat) : List Pr := (List.range k).flatMap (msrcOf S n sink dr)
theorem msrc_succ (S : List Bool) (n sink : Nat) (dr : Bool) (k : Nat) : msrc S n sink dr (k + 1) = msrc S n sink dr k ++ msrcOf S n sink dr k := by simp [msrc, List.range_succ]
theorem msrc_le (S : List Bool) (n sink : Nat) (dr : Bool) (k : Nat) : (msrc S n sink dr k).length ≤ k := by
  induction k with
  | zero => simp [msrc]
  | succ k ih =>
    rw [msrc_succ, List.length_append]
    have : (msrcOf S n sink dr k).length ≤ 1 := by unfold msrcOf; split <;> simp
    omega
/-- The model's pairs. -/
def mPairs (O S : List Bool) (reach : Nat → List Int) (n sink : Nat) (blk : Option (List Bool)) (dr : Bool) : List Pr := (linkPairs O reach n ++ msrc S n sink dr n).filter (okP n sink blk)
/-- The network under way. -/
def MZ (w wr : World) (Z F V n sink : Nat) (blk : Option (List Bool)) (ps : List Pr) : Prop := ZM w (fun _ => 0) wr Z F V (ps.filter (okP n sink blk)) (netOf V (ps.filter (okP n sink blk))).2
def MzR (w : World) (Z F V n sink : Nat) (blk : Option (List Bool)) (ps : List Pr) (e : Ending) (w' : World) : Prop := e = .returned (.tuple #[]) ∧ MZ w w' Z F V n sink blk ps
section
variable {w wr : World} {Z F V n sink : Nat} {blk : Option (List Bool)} {ps : List Pr}
theorem MZ.below (h : MZ w wr Z F V n sink blk ps) : Below w.heap.size w wr := ZN.below h (Nat.le_refl _) (fun _ _ => rfl)
theorem MZ.add {vb : Value} (h : MZ w wr Z F V n sink blk ps) (p : Pr) (hm : ps.length ≤ 500000) (ha : p.a < V) (hb : p.b < V) (hx0 : 0 ≤ p.cost) (hx1 : p.cost ≤ 1) (hbl : BlkV w vb n blk) (hn : n ≤ 256) (hs : sink < 2 * n) (hVn : V = 2 * n + 1) (A B : Int) (hA : A = (p.a : Int)) (hB : B = (p.b : Int)) :
    Calls Try.prog 53 #[.pointer (some ⟨Z, 0, none⟩), .int .i64 n, .int .i64 sink, vb, .int .i64 A, .int .i64 B, .int .i32 p.full, .int .i32 p.cost] wr fun e w' => MzR w Z F V n sink blk (ps ++ [p]) e w' := by
  subst hA hB
  refine (addP_any h p (Nat.le_trans (List.length_filter_le _ _) hm) ha hb hx0 hx1 (hbl.later h.below) hn hs hVn).mono ?_
  rintro e w' ⟨rfl, hz⟩
  rw [addM_filter] at hz
  exact ⟨rfl, hz⟩
end
def ModR (w : World) (V : Nat) (ps : List Pr) (e : Ending) (w' : World) : Prop := ∃ Z F, e = .returned (.pointer (some ⟨Z, 0, none⟩)) ∧ ZM w (fun _ => 0) w' Z F V ps (netOf V ps).2
theorem z_new {w w1 : World} {H V : Nat} (hH : w.heap.size = H) (hr : Rw w1 H 21 (List.replicate V (.int .i32 0))) (hb : Below H w w1) (hs : w1.heap.size = H + 1) :
    ZN w (fun _ => 0) (w1.alloc (.cells #[.int .i64 V, .slice (some ⟨H, 0, none⟩) V V, .slice none 0 0, .slice none 0 0, .slice none 0 0, .slice none 0 0] 78)) (H + 1) H V (List.replicate V 0) [] [] [] [] := by
  have o1 := (Own.nothing w).addArr (t := 6) (b := H) (e := 21) (l := List.replicate V (.int .i32 0)) (w' := w1) (by rw [hH]; exact hb) hr (by omega) rfl rfl (by omega)
  have hr2 : Rw (w1.alloc (.cells #[.int .i64 V, .slice (some ⟨H, 0, none⟩) V V, .slice none 0 0, .slice none 0 0, .slice none 0 0, .slice none 0 0] 78)) (H + 1) 78 [.int .i64 V, .slice (some ⟨H, 0, none⟩) V V, .slice none 0 0, .slice none 0 0, .slice none 0 0, .slice none 0 0] := by
    have h := Rw.new w1 78 [.int .i64 V, .slice (some ⟨H, 0, none⟩) V V, .slice none 0 0, .slice none 0 0, .slice none 0 0, .slice none 0 0]
    rw [hs] at h
    exact h
  have o2 := o1.addArr (t := 1) (b := H + 1) (e := 78) (l := [.int .i64 V, .slice (some ⟨H, 0, none⟩) V V, .slice none 0 0, .slice none 0 0, .slice none 0 0, .slice none 0 0]) (below_laid w1 _) hr2 (by omega) rfl rfl (by omega)
  have o3 := (((o2.addNil (t := 2) (z := 1) (e := 21) rfl).addNil (t := 3) (z := 1) (e := 21) rfl).addNil (t := 4) (z := 1) (e := 21) rfl).addNil (t := 5) (z := 1) (e := 21) rfl
  refine ⟨_, ⟨H + 1, H, V, List.replicate V 0, fun _ => .slice none 0 0, fun _ => []⟩, ⟨o3.congr (fun t => ?_) (fun t => ?_), by simp⟩, ?_, ⟨rfl, rfl, rfl, rfl, rfl, rfl, rfl, rfl⟩⟩
  · by_cases h1 : t = 1
    · subst h1; rfl
    · by_cases h6 : t = 6
      · subst h6; simp [ZV.A, Lay.upd]
      · simp [ZV.A, Lay.upd, h1, h6]
  · by_cases h2 : t = 2
    · subst h2; rfl
    · by_cases h3 : t = 3
      · subst h3; rfl
      · by_cases h4 : t = 4
        · subst h4; rfl
        · by_cases h5 : t = 5
          · subst h5; rfl
          · have : ¬ (2 ≤ t ∧ t ≤ 5) := by omega
            simp [ZV.R, Gro.upd, h2, h3, h4, h5, this]
  · have s1 : Step finT w (fun _ => 0) w1 (retag (fun _ => 0) H 6) := Step.add (by rw [hH]; exact hb) (by omega)
    exact s1.trans (Step.add (below_laid w1 _) (by omega))
theorem ZN.setFirst {w : World} {T : Nat → Nat} {wr : World} {Z F V : Nat} {fs l2 l3 l4 l5 : List Int} (h : ZN w T wr Z F V fs l2 l3 l4 l5) (i : Nat) (x : Int) : ZN w T (wr.setCell ⟨F, i, none⟩ (.int .i32 x)) Z F V (fs.set i x) l2 l3 l4 l5 := by
  obtain ⟨T', z, h1, h2, h3⟩ := h
  have y := h1.setFirst i x
  rw [h3.F] at y
  exact ⟨T', _, y.1, h2.trans y.2, h3.set i x⟩
theorem ZN.field1 {w : World} {T : Nat → Nat} {wr : World} {Z F V : Nat} {fs l2 l3 l4 l5 : List Int} (h : ZN w T wr Z F V fs l2 l3 l4 l5) : wr.cell? ⟨Z, 1, none⟩ = some (.slice (some ⟨F, 0, none⟩) V V) ∧ fs.length = V ∧ (∀ i, i < V → ∃ u, wr.cell? ⟨F, i, none⟩ = some u) ∧ (∀ i, wr.frozen? ⟨F, i, none⟩ = false) := by
  obtain ⟨T', z, h1, h2, h3⟩ := h
  have hl := h1.flen
  rw [h3.fs, h3.V] at hl
  refine ⟨by rw [← h3.Z, ← h3.F, ← h3.V]; exact h1.f rfl, hl, fun i hi => ⟨_, by rw [← h3.F]; exact h1.fc (List.getElem?_eq_getElem (by rw [h3.fs]; omega))⟩, fun i => by rw [← h3.F]; exact h1.fcf i⟩

set_option maxRecDepth 100000 in
set_option maxHeartbeats 8000000 in
theorem model_any (w : World) (n sink gO gS : Nat) (lk dr : Bool) (vl vb : Value) (rows : List (List Int)) (O S : List Bool) (blk : Option (List Bool)) (hvl : RSl w vl rows) (hO : Rw w gO 4 (O.map .bool)) (hS : Rw w gS 4 (S.map .bool)) (hol : O.length = n) (hsl : S.length = n) (hbl : BlkV w vb n blk)
    (hn : n ≤ 256) (hn0 : 1 ≤ n) (hs : sink < 2 * n) (hlok : linksOk n lk rows = true) (hbnd : (linkPairs O (reachL n lk rows) n).length ≤ 400000) :
    Calls Try.prog 31 #[.int .i64 n, .bool lk, vl, .slice (some ⟨gO, 0, none⟩) n n, .slice (some ⟨gS, 0, none⟩) n n, vb, .int .i64 sink, .bool dr] w fun e w' => ModR w (2 * n + 1) (mPairs O S (reachL n lk rows) n sink blk dr) e w' := by
  obtain ⟨i0, hi0, hz0, hz1, hz2⟩ := info_parts Try.info21
  obtain ⟨ra, rc, rfl, hrm, _, hrows⟩ := hvl
  unfold maxLen at hrm
  have HVL : Hid (∀ i, (hi : i < rows.length) → ∃ b off rv, ra = some ⟨b, off, none⟩ ∧ w.cell? ⟨b, off + i, none⟩ = some rv ∧ KSl .i64 w rv rows[i]) := hrows
  have HO : Hid (Rw w gO 4 (O.map .bool)) := hO
  have HS : Hid (Rw w gS 4 (S.map .bool)) := hS
  have HOL : Hid (O.length = n) := hol
  have HSL : Hid (S.length = n) := hsl
  have HBL : Hid (BlkV w vb n blk) := hbl
  obtain ⟨ba, bn, bc, rfl⟩ := hbl.form
  have HRG : Hid (∀ v, v < n → ∀ j, (h : j < (reachL n lk rows v).length) → 0 ≤ (reachL n lk rows v)[j] ∧ (reachL n lk rows v)[j] < n) := fun v hv j hj => reach_get hlok hv hj
  obtain ⟨H, hH⟩ := size_name w
  have HH : Hid (w.heap.size = H) := hH
  have hgO : gO < H := by rw [← hH]; exact hO.lt
  have hgS : gS < H := by rw [← hH]; exact hS.lt
  have HBN : Hid ((linkPairs O (reachL n lk rows) n).length ≤ 400000) := hbnd
  clear hrows hO hS hol hsl hbl hlok hH hbnd
  have hw1 : IntKind.i64.wrap (2 * (n : Int)) = 2 * n := by rw [IntKind.wrap_i64]; omega
  obtain ⟨reach, hre⟩ : ∃ r, reachL n lk rows = r := ⟨_, rfl⟩
  have HRE : Hid (reachL n lk rows = reach) := hre
  rw [hre] at HRG HBN
  rw [hre]
  clear hre
  go_enter Try.func31, Try.ntmps31
  go_wp2_with (at_make; refine wpList_mk _ rfl _ _ _ rfl 21 i0 (.int .i32 0) 4 Try.underlying45 hi0 hz0 hz1 hz2 rfl _ _ _ _ (2 * n + 1) rfl rfl (by omega) (by omega) (by omega) (by unfold maxLen; omega) H HH.out ?_; intro w1 hr hb hsz)
  have HZ0 : Hid (ZN w (fun _ => 0) (w1.alloc (.cells #[.int .i64 (2 * (n : Int) + 1), .slice (some ⟨H, 0, none⟩) (2 * n + 1) (2 * n + 1), .slice none 0 0, .slice none 0 0, .slice none 0 0, .slice none 0 0] 78)) (H + 1) H (2 * n + 1) (List.replicate (2 * n + 1) 0) [] [] [] []) := by
    have h := z_new HH.out hr hb hsz
    rw [show ((2 * n + 1 : Nat) : Int) = 2 * (n : Int) + 1 by omega] at h
    exact h
  clear hr hb hsz
  go_loopw [19] (fun c wr => ∃ (k : Nat) (fs : List Int), k ≤ 2 * n + 1 ∧ c = .int .i64 k ∧ Hid (ZN w (fun _ => 0) wr (H + 1) H (2 * n + 1) fs [] [] [] [] ∧ fs.take k = List.replicate k (-1))) (fun c _ => 2 * n + 1 - (intOf c).toNat)
  case atStart => exact ⟨0, _, Nat.zero_le _, rfl, HZ0.out, by simp⟩
  case round =>
    obtain ⟨k, fs, hk, rfl, HR⟩ := hrel
    clear HZ0
    obtain ⟨c1, hfl, hcell, hfz⟩ := HR.out.1.field1
    by_cases hlt : k < 2 * n + 1
    · obtain ⟨u, cu⟩ := hcell k hlt
      have cf := hfz k
      have HN : Hid (ZN w (fun _ => 0) (wr.setCell ⟨H, k, none⟩ (.int .i32 (-1))) (H + 1) H (2 * n + 1) (fs.set k (-1)) [] [] [] [] ∧ (fs.set k (-1)).take (k + 1) = List.replicate (k + 1) (-1)) := by
        refine ⟨HR.out.1.setFirst k (-1), ?_⟩
        rw [List.take_add_one, List.take_set_of_le (Nat.le_refl _), HR.out.2, List.getElem?_set_self (by omega), List.replicate_succ']
        rfl
      clear HR hcell hfz hfl
      go_wp2
      go_roundw
      case rel => exact ⟨k + 1, _, by omega, by go_num, HN⟩
      case measure => simp [intOf]; omega
    · have HM0 : Hid (MZ w wr (H + 1) H (2 * n + 1) n sink blk (linkPairs O reach 0)) := by
        have h := HR.out.2
        rw [List.take_of_length_le (by omega)] at h
        have hke : k = 2 * n + 1 := by omega
        rw [hke] at h
        have h1 := HR.out.1
        rw [h, ← firstL_nil] at h1
        exact h1
      clear HR c1 hfl hcell hfz
      go_wp2
      go_loopw [20] (fun c wr => ∃ k : Nat, k ≤ n ∧ c = .int .i64 k ∧ Hid (MZ w wr (H + 1) H (2 * n + 1) n sink blk (linkPairs O reach k))) (fun c _ => n - (intOf c).toNat)
      case atStart => exact ⟨0, Nat.zero_le _, rfl, HM0⟩
      case round =>
        as_aux_lemma =>
          obtain ⟨v, hv, rfl, HM⟩ := hrel
          clear HM0
          have hqb : (linkPairs O reach v).length ≤ 400000 := Nat.le_trans (linkPairs_mono O reach hv) HBN.out
          by_cases hvl : v < n
          · have go : wr.cell? ⟨gO, v, none⟩ = some (.bool (isOut O v)) := by
              rw [(bcell HM.out.below).1 gO v (by rw [HH.out]; exact hgO), HO.out.cell]; simp [isOut, HOL.out, hvl]
            have hqb1 : (linkPairs O reach (v + 1)).length ≤ 400000 := Nat.le_trans (linkPairs_mono O reach (k := v + 1) (n := n) (by omega)) HBN.out
            cases hok : isOut O v with
            | true =>
              rw [hok] at go
              have HE : Hid (MZ w wr (H + 1) H (2 * n + 1) n sink blk (linkPairs O reach (v + 1))) := by
                have e : linkPairs O reach (v + 1) = linkPairs O reach v := by rw [linkPairs_succ]; unfold genOf; rw [hok]; simp
                rw [e]; exact HM
              clear hok hqb1 HM
              go_wp2
              go_roundw
              case rel => exact ⟨v + 1, by omega, by go_num, HE⟩
              case measure => simp [intOf]; omega
            | false =>
              rw [hok] at go
              have HGE : Hid (linkPairs O reach (v + 1) = (linkPairs O reach v ++ [⟨2 * v, 2 * v + 1, 1, 0⟩]) ++ linkOf O v (reach v)) := by
                show _ = _
                rw [linkPairs_succ]; unfold genOf; rw [hok]; simp
              have hgl : (linkPairs O reach v).length + 1 + (linkOf O v (reach v)).length ≤ 400000 := by
                rw [HGE.out] at hqb1
                simp only [List.length_append, List.length_cons, List.length_nil] at hqb1
                omega
              obtain ⟨qs, hqs⟩ : ∃ qs, linkPairs O reach v = qs := ⟨_, rfl⟩
              rw [hqs] at HM HGE hgl
              have HAD := hid_of (HM.out.add ⟨2 * v, 2 * v + 1, 1, 0⟩ (by omega) (by show 2 * v < _; omega) (by show 2 * v + 1 < _; omega) (by show (0 : Int) ≤ 0; omega) (by show (0 : Int) ≤ 1; omega) HBL.out hn hs rfl (2 * (v : Int)) (2 * (v : Int) + 1) (by show _ = ((2 * v : Nat) : Int); omega) (by show _ = ((2 * v + 1 : Nat) : Int); omega))
              clear hok hqs HM hqb hqb1
              go_wp2_with fail
              refine HAD.out.mono ?_
              rintro e wa ⟨rfl, hma⟩
              obtain ⟨bs, hbs⟩ : ∃ bs, qs ++ [(⟨2 * v, 2 * v + 1, 1, 0⟩ : Pr)] = bs := ⟨_, rfl⟩
              have hbl : bs.length = qs.length + 1 := by rw [← hbs]; simp
              rw [hbs] at hma HGE
              have HM1 : Hid (MZ w wa (H + 1) H (2 * n + 1) n sink blk bs) := hma
              clear hma HAD hbs go
              cases lk with
              | true =>
                by_cases hkr : v < rows.length
                · obtain ⟨b, off, rv, rfl, hcr, hkv⟩ := HVL.out v hkr
                  obtain ⟨zs, hzs⟩ : ∃ zs, rows[v] = zs := ⟨_, rfl⟩
                  rw [hzs] at hkv
                  obtain ⟨za, zc, rfl, hzm, _, hcz⟩ := hkv
                  unfold maxLen at hzm
                  have hbH : b < w.heap.size := cell_at hcr
                  have HBH : Hid (b < w.heap.size) := hbH
                  have HCR : Hid (w.cell? ⟨b, off + v, none⟩ = some (.slice za zs.length zc)) := hcr
                  have HCZ : Hid (∀ i, (hi : i < zs.length) → ∃ b off, za = some ⟨b, off, none⟩ ∧ w.cell? ⟨b, off + i, none⟩ = some (.int .i64 zs[i])) := hcz
                  have HZS : Hid (reach v = zs) := by
                    show _ = _
                    rw [← HRE.out, ← hzs]; simp [reachL, hkr]
                  have HZG : Hid (∀ j, (h : j < zs.length) → 0 ≤ zs[j] ∧ zs[j] < n) := by
                    intro j hj
                    have := HRG.out v hvl j (by rw [HZS.out]; exact hj)
                    simpa only [HZS.out] using this
                  have hgb' : bs.length + (linkOf O v zs).length ≤ 400000 := by rw [← HZS.out]; omega
                  clear hcr hcz hzs hbH hgl
                  go_wp2
                  go_loopw [21] (fun c wr => ∃ j : Nat, j ≤ zs.length ∧ c = .int .i64 j ∧ Hid (MZ w wr (H + 1) H (2 * n + 1) n sink blk (bs ++ linkOf O v (zs.take j)))) (fun c _ => zs.length - (intOf c).toNat)
                  case atStart => exact ⟨0, Nat.zero_le _, rfl, by rw [List.take_zero]; simp only [linkOf, List.filter_nil, List.map_nil, List.append_nil]; exact HM1⟩
                  case round =>
                    as_aux_lemma =>
                      obtain ⟨j, hj, rfl, WJ⟩ := hrel
                      clear HM1
                      have hjb : (linkOf O v (zs.take j)).length ≤ (linkOf O v zs).length := linkOf_take_le O v zs j
                      have hcr : wr.cell? ⟨b, off + v, none⟩ = some (.slice za zs.length zc) := by rw [(bcell WJ.out.below).1 b (off + v) HBH.out]; exact HCR.out
                      by_cases hjl : j < zs.length
                      · obtain ⟨z, hz⟩ : ∃ z : Nat, zs[j] = (z : Int) := Int.eq_ofNat_of_zero_le (HZG.out j hjl).1
                        have hzn : z < n := by have := (HZG.out j hjl).2; omega
                        obtain ⟨zb, zo, rfl, hcz⟩ : ∃ zb zo, za = some ⟨zb, zo, none⟩ ∧ wr.cell? ⟨zb, zo + j, none⟩ = some (.int .i64 (z : Int)) := by
                          obtain ⟨zb, zo, e1, e2⟩ := HCZ.out j hjl
                          rw [hz] at e2
                          exact ⟨zb, zo, e1, by rw [(bcell WJ.out.below).1 zb (zo + j) (cell_at e2)]; exact e2⟩
                        have go : wr.cell? ⟨gO, z, none⟩ = some (.bool (isOut O z)) := by
                          rw [(bcell WJ.out.below).1 gO z (by rw [HH.out]; exact hgO), HO.out.cell]; simp [isOut, HOL.out, hzn]
                        have HT : Hid _ := linkOf_take O v zs j hjl
                        rw [hz, Int.toNat_natCast] at HT
                        clear hz
                        by_cases hzk : z = v
                        · have hbq : ((z : Int) != (v : Int)) = false := by rw [bne_eq_false_iff_eq]; omega
                          have HT' : Hid (MZ w wr (H + 1) H (2 * n + 1) n sink blk (bs ++ linkOf O v (zs.take (j + 1)))) := by
                            rw [HT.out, hbq]; simp only [Bool.false_and, Bool.false_eq_true, if_false, List.append_nil]; exact WJ
                          clear HT WJ
                          go_wp2
                          go_roundw
                          case rel => exact ⟨j + 1, by omega, by go_num, HT'⟩
                          case measure => simp [intOf]; omega
                        · have hbq : ((z : Int) != (v : Int)) = true := by rw [bne_iff_ne]; omega
                          cases ho2 : isOut O z with
                          | true =>
                            rw [ho2] at go
                            have HT' : Hid (MZ w wr (H + 1) H (2 * n + 1) n sink blk (bs ++ linkOf O v (zs.take (j + 1)))) := by
                              rw [HT.out, ho2]; simp only [Bool.not_true, Bool.and_false, Bool.false_eq_true, if_false, List.append_nil]; exact WJ
                            clear HT ho2 WJ
                            go_wp2
                            go_roundw
                            case rel => exact ⟨j + 1, by omega, by go_num, HT'⟩
                            case measure => simp [intOf]; omega
                          | false =>
                            rw [ho2] at go
                            have HT' : Hid (linkOf O v (zs.take (j + 1)) = linkOf O v (zs.take j) ++ [⟨2 * v + 1, 2 * z, 1, 1⟩]) := by
                              show _ = _
                              rw [HT.out, hbq, ho2]; simp only [Bool.not_false, Bool.and_self, if_true]
                            have HAD := hid_of (WJ.out.add ⟨2 * v + 1, 2 * z, 1, 1⟩ (by rw [List.length_append]; omega) (by show 2 * v + 1 < _; omega) (by show 2 * z < _; omega) (by show (0 : Int) ≤ 1; omega) (by show (1 : Int) ≤ 1; omega) HBL.out hn hs rfl (2 * (v : Int) + 1) (2 * (z : Int)) (by show _ = ((2 * v + 1 : Nat) : Int); omega) (by show _ = ((2 * z : Nat) : Int); omega))
                            clear HT ho2 WJ
                            go_wp2_with fail
                            refine HAD.out.mono ?_
                            rintro e wb ⟨rfl, hmb⟩
                            have HW : Hid (MZ w wb (H + 1) H (2 * n + 1) n sink blk (bs ++ linkOf O v (zs.take (j + 1)))) := by
                              rw [HT'.out, ← List.append_assoc]; exact hmb
                            clear hmb HAD
                            go_wp2
                            go_roundw
                            case rel => exact ⟨j + 1, by omega, by go_num, HW⟩
                            case measure => simp [intOf]; omega
                      · have WE : Hid (MZ w wr (H + 1) H (2 * n + 1) n sink blk (linkPairs O reach (v + 1))) := by
                          have h := WJ.out
                          rw [List.take_of_length_le (by omega), ← HZS.out, ← HGE.out] at h
                          exact h
                        clear WJ
                        go_wp2
                        go_roundw
                        case rel => exact ⟨v + 1, by omega, by go_num, WE⟩
                        case measure => simp [intOf]; omega
                · have WE : Hid (MZ w wa (H + 1) H (2 * n + 1) n sink blk (linkPairs O reach (v + 1))) := by
                    have hz : reach v = [] := by rw [← HRE.out]; simp [reachL, List.getElem?_eq_none (by omega : rows.length ≤ v)]
                    rw [HGE.out, hz]
                    simp only [linkOf, List.filter_nil, List.map_nil, List.append_nil]; exact HM1
                  clear HM1
                  go_wp2
                  go_roundw
                  case rel => exact ⟨v + 1, by omega, by go_num, WE⟩
                  case measure => simp [intOf]; omega
              | false =>
                have HZS : Hid (reach v = (List.range n).map Int.ofNat) := by
                  show _ = _
                  rw [← HRE.out]; rfl
                obtain ⟨zs, hzs⟩ : ∃ zs, (List.range n).map Int.ofNat = zs := ⟨_, rfl⟩
                have HZL : Hid (zs.length = n ∧ ∀ j (h : j < zs.length), zs[j] = (j : Int)) := by
                  rw [← hzs]; exact ⟨by simp, fun j h => by simp⟩
                rw [hzs] at HZS
                have hgb' : bs.length + (linkOf O v zs).length ≤ 400000 := by rw [← HZS.out]; omega
                clear hzs hgl
                go_wp2
                go_loopw [23] (fun c wr => ∃ j : Nat, j ≤ n ∧ c = .int .i64 j ∧ Hid (MZ w wr (H + 1) H (2 * n + 1) n sink blk (bs ++ linkOf O v (zs.take j)))) (fun c _ => n - (intOf c).toNat)
                case atStart => exact ⟨0, Nat.zero_le _, rfl, by rw [List.take_zero]; simp only [linkOf, List.filter_nil, List.map_nil, List.append_nil]; exact HM1⟩
                case round =>
                  as_aux_lemma =>
                    obtain ⟨z, hzl, rfl, WJ⟩ := hrel
                    clear HM1
                    have hjb : (linkOf O v (zs.take z)).length ≤ (linkOf O v zs).length := linkOf_take_le O v zs z
                    by_cases hzn : z < n
                    · have hjl : z < zs.length := by rw [HZL.out.1]; exact hzn
                      have go : wr.cell? ⟨gO, z, none⟩ = some (.bool (isOut O z)) := by
                        rw [(bcell WJ.out.below).1 gO z (by rw [HH.out]; exact hgO), HO.out.cell]; simp [isOut, HOL.out, hzn]
                      have HT : Hid _ := linkOf_take O v zs z hjl
                      rw [HZL.out.2 z hjl, Int.toNat_natCast] at HT
                      clear hjl
                      by_cases hzk : z = v
                      · have hbq : ((z : Int) != (v : Int)) = false := by rw [bne_eq_false_iff_eq]; omega
                        have HT' : Hid (MZ w wr (H + 1) H (2 * n + 1) n sink blk (bs ++ linkOf O v (zs.take (z + 1)))) := by
                          rw [HT.out, hbq]; simp only [Bool.false_and, Bool.false_eq_true, if_false, List.append_nil]; exact WJ
                        clear HT WJ
                        go_wp2
                        go_roundw
                        case rel => exact ⟨z + 1, by omega, by go_num, HT'⟩
                        case measure => simp [intOf]; omega
                      · have hbq : ((z : Int) != (v : Int)) = true := by rw [bne_iff_ne]; omega
                        cases ho2 : isOut O z with
                        | true =>
                          rw [ho2] at go
                          have HT' : Hid (MZ w wr (H + 1) H (2 * n + 1) n sink blk (bs ++ linkOf O v (zs.take (z + 1)))) := by
                            rw [HT.out, ho2]; simp only [Bool.not_true, Bool.and_false, Bool.false_eq_true, if_false, List.append_nil]; exact WJ
                          clear HT ho2 WJ
                          go_wp2
                          go_roundw
                          case rel => exact ⟨z + 1, by omega, by go_num, HT'⟩
                          case measure => simp [intOf]; omega
                        | false =>
                          rw [ho2] at go
                          have HT' : Hid (linkOf O v (zs.take (z + 1)) = linkOf O v (zs.take z) ++ [⟨2 * v + 1, 2 * z, 1, 1⟩]) := by
                            show _ = _
                            rw [HT.out, hbq, ho2]; simp only [Bool.not_false, Bool.and_self, if_true]
                          have HAD := hid_of (WJ.out.add ⟨2 * v + 1, 2 * z, 1, 1⟩ (by rw [List.length_append]; omega) (by show 2 * v + 1 < _; omega) (by show 2 * z < _; omega) (by show (0 : Int) ≤ 1; omega) (by show (1 : Int) ≤ 1; omega) HBL.out hn hs rfl (2 * (v : Int) + 1) (2 * (z : Int)) (by show _ = ((2 * v + 1 : Nat) : Int); omega) (by show _ = ((2 * z : Nat) : Int); omega))
                          clear HT ho2 WJ
                          go_wp2_with fail
                          refine HAD.out.mono ?_
                          rintro e wb ⟨rfl, hmb⟩
                          have HW : Hid (MZ w wb (H + 1) H (2 * n + 1) n sink blk (bs ++ linkOf O v (zs.take (z + 1)))) := by
                            rw [HT'.out, ← List.append_assoc]; exact hmb
                          clear hmb HAD
                          go_wp2
                          go_roundw
                          case rel => exact ⟨z + 1, by omega, by go_num, HW⟩
                          case measure => simp [intOf]; omega
                    · have WE : Hid (MZ w wr (H + 1) H (2 * n + 1) n sink blk (linkPairs O reach (v + 1))) := by
                        have h := WJ.out
                        rw [List.take_of_length_le (by rw [HZL.out.1]; omega), ← HZS.out, ← HGE.out] at h
                        exact h
                      clear WJ
                      go_wp2
                      go_roundw
                      case rel => exact ⟨v + 1, by omega, by go_num, WE⟩
                      case measure => simp [intOf]; omega
          · have HM2 : Hid (MZ w wr (H + 1) H (2 * n + 1) n sink blk (linkPairs O reach n ++ msrc S n sink dr 0)) := by
              have hve : v = n := by omega
              have h := HM.out
              rw [hve] at h
              show MZ w wr (H + 1) H (2 * n + 1) n sink blk (linkPairs O reach n ++ msrc S n sink dr 0)
              simpa [msrc] using h
            have hlb := HBN.out
            clear HM hqb
            go_wp2
            go_loopw [24] (fun c wr => ∃ k : Nat, k ≤ n ∧ c = .int .i64 k ∧ Hid (MZ w wr (H + 1) H (2 * n + 1) n sink blk (linkPairs O reach n ++ msrc S n sink dr k))) (fun c _ => n - (intOf c).toNat)
            case atStart => exact ⟨0, Nat.zero_le _, rfl, HM2⟩
            case round =>
              obtain ⟨u, hu, rfl, HM⟩ := hrel
              clear HM2
              by_cases hul : u < n
              · have gs : wr.cell? ⟨gS, u, none⟩ = some (.bool (S.getD u false)) := by
                  rw [(bcell HM.out.below).1 gS u (by rw [HH.out]; exact hgS), HS.out.cell]; simp [HSL.out, hul]
                have hml := msrc_le S n sink dr u
                have HSU : Hid (msrc S n sink dr (u + 1) = msrc S n sink dr u ++ msrcOf S n sink dr u) := msrc_succ _ _ _ _ _
                have hgo : (S.getD u false && (dr || decide (2 * u ≠ sink))) = true ∨ (S.getD u false && (dr || decide (2 * u ≠ sink))) = false := by cases (S.getD u false && (dr || decide (2 * u ≠ sink))) <;> simp
                rcases hgo with hgo | hgo
                · have HMO : Hid (msrcOf S n sink dr u = [⟨2 * n, 2 * u, 1, 0⟩]) := by show _ = _; unfold msrcOf; rw [if_pos hgo]
                  have hsu : S.getD u false = true := (Bool.and_eq_true_iff.1 hgo).1
                  have hgo2 := (Bool.and_eq_true_iff.1 hgo).2
                  have hdu : dr = true ∨ (2 * (u : Int) != (sink : Int)) = true := by
                    cases dr with
                    | true => exact .inl rfl
                    | false =>
                      right
                      simp at hgo2
                      rw [bne_iff_ne]
                      omega
                  rw [hsu] at gs
                  have HAD := hid_of (HM.out.add ⟨2 * n, 2 * u, 1, 0⟩ (by rw [List.length_append]; omega) (by show 2 * n < _; omega) (by show 2 * u < _; omega) (by show (0 : Int) ≤ 0; omega) (by show (0 : Int) ≤ 1; omega) HBL.out hn hs rfl (2 * (n : Int)) (2 * (u : Int)) (by show _ = ((2 * n : Nat) : Int); omega) (by show _ = ((2 * u : Nat) : Int); omega))
                  clear hgo hsu HM hgo2
                  rcases hdu with hdu | hdu
                  · subst hdu
                    go_wp2_with fail
                    refine HAD.out.mono ?_
                    rintro e wb ⟨rfl, hmb⟩
                    have HW : Hid (MZ w wb (H + 1) H (2 * n + 1) n sink blk (linkPairs O reach n ++ msrc S n sink true (u + 1))) := by
                      rw [HSU.out, HMO.out, ← List.append_assoc]; exact hmb
                    clear hmb HAD
                    go_wp2
                    go_roundw
                    case rel => exact ⟨u + 1, by omega, by go_num, HW⟩
                    case measure => simp [intOf]; omega
                  · cases dr with
                    | true =>
                      go_wp2_with fail
                      refine HAD.out.mono ?_
                      rintro e wb ⟨rfl, hmb⟩
                      have HW : Hid (MZ w wb (H + 1) H (2 * n + 1) n sink blk (linkPairs O reach n ++ msrc S n sink true (u + 1))) := by
                        rw [HSU.out, HMO.out, ← List.append_assoc]; exact hmb
                      clear hmb HAD
                      go_wp2
                      go_roundw
                      case rel => exact ⟨u + 1, by omega, by go_num, HW⟩
                      case measure => simp [intOf]; omega
                    | false =>
                      go_wp2_with fail
                      refine HAD.out.mono ?_
                      rintro e wb ⟨rfl, hmb⟩
                      have HW : Hid (MZ w wb (H + 1) H (2 * n + 1) n sink blk (linkPairs O reach n ++ msrc S n sink false (u + 1))) := by
                        rw [HSU.out, HMO.out, ← List.append_assoc]; exact hmb
                      clear hmb HAD
                      go_wp2
                      go_roundw
                      case rel => exact ⟨u + 1, by omega, by go_num, HW⟩
                      case measure => simp [intOf]; omega
                · have HW : Hid (MZ w wr (H + 1) H (2 * n + 1) n sink blk (linkPairs O reach n ++ msrc S n sink dr (u + 1))) := by
                    rw [HSU.out]; unfold msrcOf; rw [hgo]
                    show MZ w wr (H + 1) H (2 * n + 1) n sink blk _
                    simpa using HM.out
                  clear HM
                  cases hsu : S.getD u false with
                  | false =>
                    rw [hsu] at gs
                    clear hsu hgo
                    go_wp2
                    go_roundw
                    case rel => exact ⟨u + 1, by omega, by go_num, HW⟩
                    case measure => simp [intOf]; omega
                  | true =>
                    rw [hsu] at gs hgo
                    have hdf : dr = false := by cases dr <;> simp at hgo ⊢
                    subst hdf
                    have hne : (2 * (u : Int) != (sink : Int)) = false := by
                      simp at hgo
                      rw [bne_eq_false_iff_eq]; omega
                    clear hsu hgo
                    go_wp2
                    go_roundw
                    case rel => exact ⟨u + 1, by omega, by go_num, HW⟩
                    case measure => simp [intOf]; omega
              · have HE : Hid (ModR w (2 * n + 1) (mPairs O S reach n sink blk dr) (.returned (.pointer (some ⟨H + 1, 0, none⟩))) wr) := by
                  have hue : u = n := by omega
                  have h := HM.out
                  rw [hue] at h
                  exact ⟨H + 1, H, rfl, h⟩
                clear HM
                go_wp2
                go_ret
                exact HE.out
end Go.Proofs.Qxb6605292a
