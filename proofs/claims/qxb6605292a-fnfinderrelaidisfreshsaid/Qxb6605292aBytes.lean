/-
  The other zzBytes: f18.
-/
import Derived.Test.Qxb6605292aArgs
namespace Go.Proofs.Qxb6605292a
open Go.RowKit

set_option maxHeartbeats 800000 in
theorem bytes2_any (n i i2 : Int) (lk : Bool) (vl vw vx : Value) (rows : List (List Int)) (ws xs : List Int) (w : World) (hl : RSl w vl rows) (hw : KSl .i64 w vw ws) (hx : KSl .i64 w vx xs) :
    Calls Try.prog 18 #[.int .i64 n, .bool lk, vl, vw, .int .i64 i, vx, .int .i64 i2] w fun e w' => RetB e ∧ w' = w := by
  obtain ⟨ao, cap, rfl, hm, hnil, hcell⟩ := hl
  obtain ⟨wo, wcap, rfl, wm, wnil, wcell⟩ := hw
  obtain ⟨xo, xcap, rfl, xm, xnil, xcell⟩ := hx
  unfold maxLen at hm wm xm
  clear wcell wnil hnil xnil xcell
  by_cases h1 : (1048576 : Int) < (rows.length : Int)
  · clear hcell
    go_enter Try.func18, Try.ntmps18
    go_wp2
    go_ret
    exact ⟨RetB.mk _, rfl⟩
  · have hcell' := hcell
    clear hcell
    have HC : Hid (∀ i, (hi : i < rows.length) → ∃ b off rv, ao = some ⟨b, off, none⟩ ∧ w.cell? ⟨b, off + i, none⟩ = some rv ∧ KSl .i64 w rv rows[i]) := hcell'
    clear hcell'
    go_enter Try.func18, Try.ntmps18
    go_wp2
    go_loop [15, 16] (fun z i => ∃ k t : Nat, k ≤ rows.length ∧ t ≤ 1048576 ∧ z = .int .i64 t ∧ i = .int .i64 k) (fun _ i => rows.length - (intOf i).toNat)
    case atStart => exact ⟨0, rows.length, Nat.zero_le _, by omega, rfl, rfl⟩
    case round =>
      obtain ⟨k, t, hk, ht, rfl, rfl⟩ := hrel
      by_cases hlt : k < rows.length
      · obtain ⟨b, off, rv, rfl, hc, rao, rcap, rfl, rm, _, _⟩ := HC.out k hlt
        unfold maxLen at rm
        clear HC
        go_wp2
        · go_ret; exact ⟨RetB.mk _, rfl⟩
        · go_ret; exact ⟨RetB.mk _, rfl⟩
        · go_round
          case rel => exact ⟨k + 1, t + rows[k].length, by omega, by omega, by go_num, by go_num⟩
          case measure => simp [intOf]; omega
      · clear HC
        go_wp2
        all_goals (go_ret; exact ⟨RetB.mk _, rfl⟩)
end Go.Proofs.Qxb6605292a
