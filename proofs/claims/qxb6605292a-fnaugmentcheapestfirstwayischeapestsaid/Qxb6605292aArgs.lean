/-
  The guards of the laws and the copies: zzBytes (f9), zzSmall (f10), zzInRange (f11), zzLinksInRange (f12).
-/
import Derived.Test.Qxb6605292aProg
import Derived.Test.Qxb6605292aBase
namespace Go.Proofs.Qxb6605292a
open Go.RowKit

/-- It returns a bool. -/
def RetB (e : Ending) : Prop := ∃ r, e = .returned (.bool r)
theorem RetB.mk (r : Bool) : RetB (.returned (.bool r)) := ⟨r, rfl⟩

set_option maxHeartbeats 400000 in
theorem bytes1_any (n i : Int) (lk : Bool) (vl vw : Value) (rows : List (List Int)) (ws : List Int) (w : World) (hl : RSl w vl rows) (hw : KSl .i64 w vw ws) :
    Calls Try.prog 9 #[.int .i64 n, .bool lk, vl, vw, .int .i64 i] w fun e w' => RetB e ∧ w' = w := by
  obtain ⟨ao, cap, rfl, hm, hnil, hcell⟩ := hl
  obtain ⟨wo, wcap, rfl, wm, wnil, wcell⟩ := hw
  unfold maxLen at hm wm
  clear wcell wnil hnil
  by_cases h1 : (1048576 : Int) < (rows.length : Int)
  · clear hcell
    go_enter Try.func9, Try.ntmps9
    go_wp2
    go_ret
    exact ⟨RetB.mk _, rfl⟩
  · have hcell' := hcell
    clear hcell
    have HC : Hid (∀ i, (hi : i < rows.length) → ∃ b off rv, ao = some ⟨b, off, none⟩ ∧ w.cell? ⟨b, off + i, none⟩ = some rv ∧ KSl .i64 w rv rows[i]) := hcell'
    clear hcell'
    go_enter Try.func9, Try.ntmps9
    go_wp2
    go_loop [11, 12] (fun z i => ∃ k t : Nat, k ≤ rows.length ∧ t ≤ 1048576 ∧ z = .int .i64 t ∧ i = .int .i64 k) (fun _ i => rows.length - (intOf i).toNat)
    case atStart => exact ⟨0, rows.length, Nat.zero_le _, by omega, rfl, rfl⟩
    case round =>
      obtain ⟨k, t, hk, ht, rfl, rfl⟩ := hrel
      by_cases hlt : k < rows.length
      · obtain ⟨b, off, rv, rfl, hc, rao, rcap, rfl, rm, _, _⟩ := HC.out k hlt
        unfold maxLen at rm
        clear HC
        go_wp2
        · go_ret; exact ⟨RetB.mk _, rfl⟩
        · go_ret; exact ⟨RetB.mk _, rfl⟩
        · go_round
          case rel => exact ⟨k + 1, t + rows[k].length, by omega, by omega, by go_num, by go_num⟩
          case measure => simp [intOf]; omega
      · clear HC
        go_wp2
        all_goals (go_ret; exact ⟨RetB.mk _, rfl⟩)

def sumLen (rows : List (List Int)) : Nat := (rows.map List.length).sum
theorem sumLen_take (rows : List (List Int)) (k : Nat) (h : k < rows.length) : sumLen (rows.take (k + 1)) = sumLen (rows.take k) + rows[k].length := by
  unfold sumLen; rw [List.take_succ_eq_append_getElem h, List.map_append, List.sum_append]; simp only [List.map_cons, List.map_nil, List.sum_cons, List.sum_nil, Nat.add_zero]
theorem sumLen_all (rows : List (List Int)) (k : Nat) (h : rows.length ≤ k) : sumLen (rows.take k) = sumLen rows := by
  rw [List.take_of_length_le h]

/-- zzSmall's answer: where it is yes, the lengths are bounded. -/
def SmallR (rows : List (List Int)) (la lb lo lk : Nat) (e : Ending) : Prop :=
  ∃ r, e = .returned (.bool r) ∧ (r = true → 24 * rows.length + 8 * la + 8 * lb + lo + lk + 8 * sumLen rows ≤ 1048576)
theorem SmallR.no (rows : List (List Int)) (la lb lo lk : Nat) : SmallR rows la lb lo lk (.returned (.bool false)) := ⟨false, rfl, by simp⟩
theorem SmallR.yes {rows : List (List Int)} {la lb lo lk : Nat} (h : 24 * rows.length + 8 * la + 8 * lb + lo + lk + 8 * sumLen rows ≤ 1048576) : SmallR rows la lb lo lk (.returned (.bool true)) := ⟨true, rfl, fun _ => h⟩

set_option maxHeartbeats 1000000 in
theorem small_any (vl : Value) (ra rb ro rk : Option Addr) (la lb lo lk ca cb co ck : Nat) (rows : List (List Int)) (w : World) (hl : RSl w vl rows) (ma : la ≤ maxLen) (mb : lb ≤ maxLen) (mo : lo ≤ maxLen) (mk : lk ≤ maxLen) :
    Calls Try.prog 10 #[vl, .slice ra la ca, .slice rb lb cb, .slice ro lo co, .slice rk lk ck] w fun e w' => SmallR rows la lb lo lk e ∧ w' = w := by
  obtain ⟨ao, cap, rfl, hm, hnil, hcell⟩ := hl
  unfold maxLen at hm ma mb mo mk
  clear hnil
  have HC : Hid (∀ i, (hi : i < rows.length) → ∃ b off rv, ao = some ⟨b, off, none⟩ ∧ w.cell? ⟨b, off + i, none⟩ = some rv ∧ KSl .i64 w rv rows[i]) := hcell
  clear hcell
  by_cases h1 : (1048576 : Int) < (rows.length : Int)
  · go_enter Try.func10, Try.ntmps10
    go_wp2
    go_ret
    exact ⟨SmallR.no _ _ _ _ _, rfl⟩
  by_cases h2 : (1048576 : Int) < (la : Int)
  · go_enter Try.func10, Try.ntmps10
    go_wp2
    go_ret
    exact ⟨SmallR.no _ _ _ _ _, rfl⟩
  by_cases h3 : (1048576 : Int) < (lb : Int)
  · go_enter Try.func10, Try.ntmps10
    go_wp2
    go_ret
    exact ⟨SmallR.no _ _ _ _ _, rfl⟩
  by_cases h4 : (1048576 : Int) < (lo : Int)
  · go_enter Try.func10, Try.ntmps10
    go_wp2
    go_ret
    exact ⟨SmallR.no _ _ _ _ _, rfl⟩
  by_cases h5 : (1048576 : Int) < (lk : Int)
  · go_enter Try.func10, Try.ntmps10
    go_wp2
    go_ret
    exact ⟨SmallR.no _ _ _ _ _, rfl⟩
  by_cases h6 : (1048576 : Int) < 24 * (rows.length : Int) + 8 * (la : Int) + 8 * (lb : Int) + (lo : Int) + (lk : Int)
  · go_enter Try.func10, Try.ntmps10
    go_wp2
    go_ret
    exact ⟨SmallR.no _ _ _ _ _, rfl⟩
  go_enter Try.func10, Try.ntmps10
  go_wp2
  go_loop [11, 12] (fun z i => ∃ k t : Nat, k ≤ rows.length ∧ t ≤ 1048576 ∧ t = 24 * rows.length + 8 * la + 8 * lb + lo + lk + 8 * sumLen (rows.take k) ∧ z = .int .i64 t ∧ i = .int .i64 k) (fun _ i => rows.length - (intOf i).toNat)
  case atStart => exact ⟨0, 24 * rows.length + 8 * la + 8 * lb + lo + lk, Nat.zero_le _, by omega, by simp [sumLen], by go_num, rfl⟩
  case round =>
    obtain ⟨k, t, hk, ht, hsum, rfl, rfl⟩ := hrel
    have HS : Hid (t = 24 * rows.length + 8 * la + 8 * lb + lo + lk + 8 * sumLen (rows.take k)) := hsum
    clear hsum
    by_cases hlt : k < rows.length
    · obtain ⟨b, off, rv, rfl, hc, rao, rcap, rfl, rm, _, _⟩ := HC.out k hlt
      unfold maxLen at rm
      clear HC
      have HT : Hid (sumLen (rows.take (k + 1)) = sumLen (rows.take k) + rows[k].length) := sumLen_take rows k hlt
      go_wp2
      · go_ret; exact ⟨SmallR.no _ _ _ _ _, rfl⟩
      · go_ret; exact ⟨SmallR.no _ _ _ _ _, rfl⟩
      · go_round
        case rel => exact ⟨k + 1, t + 8 * rows[k].length, by omega, by omega, by have := HT.out; have := HS.out; omega, by go_num, by go_num⟩
        case measure => simp [intOf]; omega
    · clear HC
      go_wp2
      go_ret
      exact ⟨SmallR.yes (by have := HS.out; rw [sumLen_all _ _ (by omega)] at this; omega), rfl⟩

/-- Are all within 0 .. n-1? -/
def inR (n : Int) (l : List Int) : Bool := l.all fun z => decide (0 ≤ z) && decide (z < n)
theorem inR_take (n : Int) (l : List Int) (k : Nat) (h : k < l.length) : inR n (l.take (k + 1)) = (inR n (l.take k) && (decide (0 ≤ l[k]) && decide (l[k] < n))) := by
  unfold inR; rw [List.take_succ_eq_append_getElem h, List.all_append]; simp only [List.all_cons, List.all_nil, Bool.and_true]
theorem inR_no (n : Int) (l : List Int) (k : Nat) (h : k < l.length) (hn : l[k] < 0 ∨ n ≤ l[k]) : inR n l = false := by
  unfold inR; rw [List.all_eq_false]; exact ⟨l[k], List.getElem_mem h, by simp; omega⟩

set_option maxHeartbeats 400000 in
theorem inRange_any (v : Value) (zs : List Int) (n : Int) (w : World) (hv : KSl .i64 w v zs) :
    Calls Try.prog 11 #[v, .int .i64 n] w fun e w' => e = .returned (.bool (inR n zs)) ∧ w' = w := by
  obtain ⟨ao, cap, rfl, hm, hnil, hcell⟩ := hv
  unfold maxLen at hm
  clear hnil
  have HC : Hid (∀ i, (hi : i < zs.length) → ∃ b off, ao = some ⟨b, off, none⟩ ∧ w.cell? ⟨b, off + i, none⟩ = some (.int .i64 zs[i])) := hcell
  clear hcell
  go_enter Try.func11, Try.ntmps11
  go_wp2
  go_loop [5] (fun i => ∃ k : Nat, k ≤ zs.length ∧ i = .int .i64 k ∧ Hid (inR n (zs.take k) = true)) (fun i => zs.length - (intOf i).toNat)
  case atStart => exact ⟨0, Nat.zero_le _, rfl, rfl⟩
  case round =>
    obtain ⟨k, hk, rfl, H⟩ := hrel
    by_cases hlt : k < zs.length
    · obtain ⟨b, off, rfl, hc⟩ := HC.out k hlt
      clear HC
      by_cases h1 : zs[k] < 0
      · have HN : Hid _ := inR_no n zs k hlt (.inl h1)
        go_wp2
        go_ret
        exact ⟨ret_bool HN.out.symm, rfl⟩
      · by_cases h2 : n ≤ zs[k]
        · have HN : Hid _ := inR_no n zs k hlt (.inr h2)
          go_wp2
          go_ret
          exact ⟨ret_bool HN.out.symm, rfl⟩
        · have HT : Hid _ := inR_take n zs k hlt
          go_wp2
          go_round
          case rel => exact ⟨k + 1, by omega, by go_num, by show _ = true; rw [HT.out, H.out]; simp; omega⟩
          case measure => simp [intOf]; omega
    · clear HC
      go_wp2
      go_ret
      exact ⟨ret_bool (by have := H.out; rw [List.take_of_length_le (by omega)] at this; exact this.symm), rfl⟩

/-- Do the links of the first n name generals? -/
def linksOk (n : Int) (lk : Bool) (rows : List (List Int)) : Bool := !lk || (rows.take n.toNat).all (inR n)
theorem linksOk_no (n : Int) (rows : List (List Int)) (k : Nat) (h : k < rows.length) (hn : (k : Int) < n) (hb : inR n rows[k] = false) : linksOk n true rows = false := by
  unfold linksOk; simp only [Bool.not_true, Bool.false_or]; rw [List.all_eq_false]
  exact ⟨rows[k], by rw [List.mem_take_iff_getElem]; exact ⟨k, by omega, rfl⟩, by simp [hb]⟩

set_option maxHeartbeats 400000 in
theorem linksInRange_any (n : Int) (lk : Bool) (v : Value) (rows : List (List Int)) (w : World) (hv : RSl w v rows) :
    Calls Try.prog 12 #[.int .i64 n, .bool lk, v] w fun e w' => e = .returned (.bool (linksOk n lk rows)) ∧ w' = w := by
  obtain ⟨ao, cap, rfl, hm, hnil, hcell⟩ := hv
  unfold maxLen at hm
  clear hnil
  cases lk with
  | false =>
    clear hcell
    go_enter Try.func12, Try.ntmps12
    go_wp2
    go_ret
    exact ⟨rfl, rfl⟩
  | true =>
  have HC : Hid (∀ i, (hi : i < rows.length) → ∃ b off rv, ao = some ⟨b, off, none⟩ ∧ w.cell? ⟨b, off + i, none⟩ = some rv ∧ KSl .i64 w rv rows[i]) := hcell
  clear hcell
  go_enter Try.func12, Try.ntmps12
  go_wp2
  go_loop [7] (fun i => ∃ k : Nat, k ≤ rows.length ∧ i = .int .i64 k ∧ Hid ((rows.take k).all (inR n) = true)) (fun i => rows.length - (intOf i).toNat)
  case atStart => exact ⟨0, Nat.zero_le _, rfl, rfl⟩
  case round =>
    obtain ⟨k, hk, rfl, H⟩ := hrel
    by_cases hn : (k : Int) < n
    · by_cases hlt : k < rows.length
      · obtain ⟨b, off, rv, rfl, hc, hrv⟩ := HC.out k hlt
        clear HC
        have HV : Hid (KSl .i64 w rv rows[k]) := hrv
        clear hrv
        cases hin : inR n rows[k] with
        | false =>
          have HN : Hid _ := linksOk_no n rows k hlt hn hin
          have HI : Hid (inR n rows[k] = false) := hin
          clear hin
          go_wp2_with (go_at_call 11; refine (inRange_any _ _ _ _ HV.out).mono ?_; rintro e w' ⟨rfl, rfl⟩; rw [HI.out])
          go_ret
          exact ⟨ret_bool HN.out.symm, rfl⟩
        | true =>
          have HI : Hid (inR n rows[k] = true) := hin
          clear hin
          go_wp2_with (go_at_call 11; refine (inRange_any _ _ _ _ HV.out).mono ?_; rintro e w' ⟨rfl, rfl⟩; rw [HI.out])
          go_round
          case rel => exact ⟨k + 1, by omega, by go_num, by show _ = true; rw [List.take_succ_eq_append_getElem hlt, List.all_append, H.out]; simp [HI.out]⟩
          case measure => simp [intOf]; omega
      · clear HC
        go_wp2
        go_ret
        refine ⟨ret_bool ?_, rfl⟩
        have := H.out
        unfold linksOk
        rw [List.take_of_length_le (by omega)] at this
        rw [List.take_of_length_le (by omega), this]; rfl
    · clear HC
      go_wp2
      go_ret
      refine ⟨ret_bool ?_, rfl⟩
      have h := H.out
      unfold linksOk
      rw [List.all_eq_true] at h
      simp only [Bool.not_true, Bool.false_or]
      symm
      rw [List.all_eq_true]
      intro x hx
      exact h x (List.mem_of_mem_take (by rw [List.take_take]; exact (by rwa [show min n.toNat k = n.toNat from by omega])))
end Go.Proofs.Qxb6605292a
