/-
  zzBytes of the laws on the cheapest ways (f36, f39); zzCloneBools of the blocked row.
-/
import Derived.Test.Qxb6605292aSmall
import Derived.Test.Qxb6605292aFinS
namespace Go.Proofs.Qxb6605292a
open Go.RowKit

set_option maxHeartbeats 1600000 in
theorem bytes5_any (n i i2 : Int) (lk : Bool) (vl vw vx vk : Value) (rows : List (List Int)) (ws : List Int) (xs ks : List Bool) (w : World) (hl : RSl w vl rows) (hw : KSl .i64 w vw ws) (hx : BSl w vx xs) (hk : BSl w vk ks) :
    Calls Try.prog 36 #[.int .i64 n, .bool lk, vl, vw, .int .i64 i, vx, vk, .int .i64 i2] w fun e w' => RetB e ∧ w' = w := by
  obtain ⟨ao, cap, rfl, hm, hnil, hcell⟩ := hl
  obtain ⟨wo, wcap, rfl, wm, wnil, wcell⟩ := hw
  obtain ⟨xo, xcap, rfl, xm, xnil, xcell⟩ := hx
  obtain ⟨ko, kcap, rfl, km, knil, kcell⟩ := hk
  unfold maxLen at hm wm xm km
  clear wcell wnil hnil xnil xcell knil kcell
  by_cases h1 : (1048576 : Int) < (rows.length : Int)
  · clear hcell
    go_enter Try.func36, Try.ntmps36
    go_wp2
    go_ret
    exact ⟨RetB.mk _, rfl⟩
  · have hcell' := hcell
    clear hcell
    have HC : Hid (∀ i, (hi : i < rows.length) → ∃ b off rv, ao = some ⟨b, off, none⟩ ∧ w.cell? ⟨b, off + i, none⟩ = some rv ∧ KSl .i64 w rv rows[i]) := hcell'
    clear hcell'
    go_enter Try.func36, Try.ntmps36
    go_wp2
    go_loop [17, 18] (fun z i => ∃ k t : Nat, k ≤ rows.length ∧ t ≤ 1048576 ∧ z = .int .i64 t ∧ i = .int .i64 k) (fun _ i => rows.length - (intOf i).toNat)
    case atStart => exact ⟨0, rows.length, Nat.zero_le _, by omega, rfl, rfl⟩
    case round =>
      obtain ⟨k, t, hk, ht, rfl, rfl⟩ := hrel
      by_cases hlt : k < rows.length
      · obtain ⟨b, off, rv, rfl, hc, rao, rcap, rfl, rm, _, _⟩ := HC.out k hlt
        unfold maxLen at rm
        clear HC
        go_wp2
        · go_ret; exact ⟨RetB.mk _, rfl⟩
        · go_ret; exact ⟨RetB.mk _, rfl⟩
        · go_round
          case rel => exact ⟨k + 1, t + rows[k].length, by omega, by omega, by go_num, by go_num⟩
          case measure => simp [intOf]; omega
      · clear HC
        go_wp2
        all_goals (go_ret; exact ⟨RetB.mk _, rfl⟩)

set_option maxHeartbeats 1600000 in
theorem bytes6_any (n i i2 : Int) (lk : Bool) (vl vw vx vk : Value) (rows : List (List Int)) (ws : List Int) (xs ks : List Bool) (w : World) (hl : RSl w vl rows) (hw : KSl .i64 w vw ws) (hx : BSl w vx xs) (hk : BSl w vk ks) :
    Calls Try.prog 39 #[.int .i64 n, .bool lk, vl, vw, .int .i64 i, vx, vk, .int .i64 i2] w fun e w' => RetB e ∧ w' = w := by
  obtain ⟨ao, cap, rfl, hm, hnil, hcell⟩ := hl
  obtain ⟨wo, wcap, rfl, wm, wnil, wcell⟩ := hw
  obtain ⟨xo, xcap, rfl, xm, xnil, xcell⟩ := hx
  obtain ⟨ko, kcap, rfl, km, knil, kcell⟩ := hk
  unfold maxLen at hm wm xm km
  clear wcell wnil hnil xnil xcell knil kcell
  by_cases h1 : (1048576 : Int) < (rows.length : Int)
  · clear hcell
    go_enter Try.func39, Try.ntmps39
    go_wp2
    go_ret
    exact ⟨RetB.mk _, rfl⟩
  · have hcell' := hcell
    clear hcell
    have HC : Hid (∀ i, (hi : i < rows.length) → ∃ b off rv, ao = some ⟨b, off, none⟩ ∧ w.cell? ⟨b, off + i, none⟩ = some rv ∧ KSl .i64 w rv rows[i]) := hcell'
    clear hcell'
    go_enter Try.func39, Try.ntmps39
    go_wp2
    go_loop [17, 18] (fun z i => ∃ k t : Nat, k ≤ rows.length ∧ t ≤ 1048576 ∧ z = .int .i64 t ∧ i = .int .i64 k) (fun _ i => rows.length - (intOf i).toNat)
    case atStart => exact ⟨0, rows.length, Nat.zero_le _, by omega, rfl, rfl⟩
    case round =>
      obtain ⟨k, t, hk, ht, rfl, rfl⟩ := hrel
      by_cases hlt : k < rows.length
      · obtain ⟨b, off, rv, rfl, hc, rao, rcap, rfl, rm, _, _⟩ := HC.out k hlt
        unfold maxLen at rm
        clear HC
        go_wp2
        · go_ret; exact ⟨RetB.mk _, rfl⟩
        · go_ret; exact ⟨RetB.mk _, rfl⟩
        · go_round
          case rel => exact ⟨k + 1, t + rows[k].length, by omega, by omega, by go_num, by go_num⟩
          case measure => simp [intOf]; omega
      · clear HC
        go_wp2
        all_goals (go_ret; exact ⟨RetB.mk _, rfl⟩)

/-- A copy of the blocked row. -/
def BlkC (lo : Nat) (w : World) (v : Value) (n : Nat) : Option (List Bool) → Prop
  | none => v = .slice none 0 0
  | some bs => n ≤ bs.length ∧ bs.length ≤ 1048576 ∧ ∃ g, lo ≤ g ∧ v = .slice (some ⟨g, 0, none⟩) bs.length bs.length ∧ Rw w g 4 (bs.map .bool)
theorem BlkC.later {lo : Nat} {w w' : World} {v : Value} {n : Nat} {bl : Option (List Bool)} (h : BlkC lo w v n bl) (hb : Below w.heap.size w w') : BlkC lo w' v n bl := by
  cases bl with
  | none => exact h
  | some bs =>
    obtain ⟨h1, h2, g, h3, h4, h5⟩ := h
    exact ⟨h1, h2, g, h3, h4, h5.below hb h5.lt⟩
theorem BlkC.form {lo : Nat} {w : World} {v : Value} {n : Nat} {bl : Option (List Bool)} (h : BlkC lo w v n bl) : ∃ ao m c, v = .slice ao m c := by
  cases bl with
  | none => exact ⟨_, _, _, h⟩
  | some bs => obtain ⟨_, _, g, _, h4, _⟩ := h; exact ⟨_, _, _, h4⟩
theorem BlkC.blkS {lo : Nat} {w : World} {T : Nat → Nat} {v : Value} {n : Nat} {bl : Option (List Bool)} (h : BlkC lo w v n bl) (hT : ∀ b, b < w.heap.size → T b = 0) : BlkS w T v n bl := by
  cases bl with
  | none => exact h
  | some bs =>
    obtain ⟨h1, h2, g, h3, h4, h5⟩ := h
    exact ⟨h1, h2, g, _, h4, h5, hT g h5.lt⟩
theorem BlkS.below {w w' : World} {T T' : Nat → Nat} {v : Value} {n B : Nat} {bl : Option (List Bool)} (h : BlkS w T v n bl) (hs : w.heap.size ≤ B) (hb : Below B w w') (hT : ∀ b, b < w.heap.size → T' b = 0) : BlkS w' T' v n bl := by
  cases bl with
  | none => exact h
  | some bs =>
    obtain ⟨h1, h2, g, cap, h3, h4, h5⟩ := h
    exact ⟨h1, h2, g, cap, h3, h4.below hb (Nat.lt_of_lt_of_le h4.lt hs), hT g h4.lt⟩
def CloneKR (w : World) (n : Nat) (e : Ending) (w' : World) : Prop := ∃ v bl, e = .returned v ∧ BlkC w.heap.size w' v n bl ∧ Below w.heap.size w w'
theorem cloneBlk_any (v : Value) (zs : List Bool) (w : World) (n : Nat) (hv : BSl w v zs) (hs : zs.length ≤ 1048576) (hn : ∀ a m c, v = .slice (some a) m c → n ≤ zs.length) (hn0 : 1 ≤ n) :
    Calls Try.prog 25 #[v] w fun e w' => CloneKR w n e w' := by
  obtain ⟨ao, cap, e0, hm, hnil, hcell⟩ := hv
  cases ao with
  | none =>
    obtain ⟨rfl, rfl⟩ := hnil rfl
    subst e0
    have q23 : ∀ (w : World) (a : Option Addr) (n c : Nat), (binOp .eql 36 (.slice a n c) (.slice none 0 0)).run Try.prog w = .ok (.bool a.isNone) w := fun w a n c => Lib.run_eql_slice_nil w _ _ a n c _ _ Try.underlying36
    clear hcell hnil
    go_enter Try.func25, Try.ntmps25
    go_wp2
    go_ret
    exact ⟨_, none, rfl, rfl, Below.refl _ _⟩
  | some p =>
    have hz := hn p _ _ e0
    refine (cloneBools_any v zs w ⟨some p, cap, e0, hm, hnil, hcell⟩ hs).mono ?_
    rintro e w' ⟨v', rfl, hc, hb⟩
    rcases hc with ⟨_, rfl⟩ | ⟨g, h1, h2, h3⟩
    · simp at hz; omega
    · exact ⟨v', some zs, rfl, ⟨hz, hs, g, h1, h2, h3⟩, hb⟩
end Go.Proofs.Qxb6605292a
