/-
  zzNameRule (f6) and the law (f3), walked.
-/
import Derived.Test.Qxb6605434aWalkA
namespace Go.Proofs.Qxb6605434a
open Go.RowKit

theorem countIn_eq (s t : ByteArray) (xs ys : List Nat) (hx : bl s = xs) (hy : bl t = ys) (w : World) (hs : xs.length ≤ 64) (ht : ys.length ≤ 65) :
    Calls Try.prog 7 #[.string s, .string t] w fun e w' => e = .returned (.int .i64 (cntIn xs ys : Nat)) ∧ w' = w := by
  have h := countIn_any s t w (by rw [← bl_len, hx]; exact hs) (by rw [← bl_len, hy]; exact ht)
  unfold CntR at h
  rw [hx, hy] at h
  exact h
theorem bl_extract (s : ByteArray) : bl (s.extract 0 1) = (bl s).take 1 := by
  unfold bl
  rw [← List.map_take]
  congr 1
  simp [ByteArray.data_extract]

set_option maxHeartbeats 1000000 in
theorem rule_any (s : ByteArray) (hs : s.size ≤ maxLen) (w : World) : Calls Try.prog 6 #[.string s] w fun e w' => BoolR (ruleL (bl s)) w e w' := by
  unfold maxLen at hs
  have hls := bl_len s
  by_cases h0 : s.size < 1
  · have HR : Hid (BoolR (ruleL (bl s)) w (.returned (.bool false)) w) := by
      refine ⟨?_, rfl⟩
      have : ruleL (bl s) = false := by unfold ruleL; rw [hls, show s.size = 0 by omega]; rfl
      rw [this]
    clear hls
    go_enter Try.func6, Try.ntmps6
    go_wp2
    go_ret
    exact HR.out
  · by_cases h1 : 64 < s.size
    · have HR : Hid (BoolR (ruleL (bl s)) w (.returned (.bool false)) w) := by
        refine ⟨?_, rfl⟩
        have : ruleL (bl s) = false := by unfold ruleL; rw [hls, decide_eq_false (by omega)]; simp
        rw [this]
      clear hls
      go_enter Try.func6, Try.ntmps6
      go_wp2
      go_ret
      exact HR.out
    · have HLS : Hid ((bl s).length = s.size) := hls
      clear hls
      go_enter Try.func6, Try.ntmps6
      go_wp2_with fail
      refine (countIn_eq _ _ ((bl s).take 1) alphaL (bl_extract s) (by rfl) w (by rw [List.length_take]; omega) (by decide)).mono ?_
      rintro e w2 ⟨rfl, rfl⟩
      obtain ⟨q1, hq1⟩ : ∃ q, cntIn ((bl s).take 1) alphaL = q := ⟨_, rfl⟩
      rw [hq1]
      by_cases hq : q1 = 1
      · have hqb : ((q1 : Int) == 1) = true := by rw [beq_iff_eq]; omega
        go_wp2_with fail
        refine (countIn_eq _ _ (bl s) anyL rfl (by rfl) _ (by rw [HLS.out]; omega) (by decide)).mono ?_
        rintro e w3 ⟨rfl, rfl⟩
        obtain ⟨q2, hq2⟩ : ∃ q, cntIn (bl s) anyL = q := ⟨_, rfl⟩
        rw [hq2]
        have HR : Hid (BoolR (ruleL (bl s)) w3 (.returned (.bool ((q2 : Int) == (s.size : Int)))) w3) := by
          refine ⟨?_, rfl⟩
          have : ruleL (bl s) = ((q2 : Int) == (s.size : Int)) := by
            unfold ruleL
            rw [HLS.out, hq1, hq2, decide_eq_true (by omega), hq, show (s.size != 0) = true by rw [bne_iff_ne]; omega]
            rw [Bool.eq_iff_iff]
            simp
            omega
          rw [this]
        clear hq1 hq2
        go_wp2
        go_ret
        exact HR.out
      · have hqb : ((q1 : Int) == 1) = false := by rw [beq_eq_false_iff_ne]; omega
        have HR : Hid (BoolR (ruleL (bl s)) w2 (.returned (.bool false)) w2) := by
          refine ⟨?_, rfl⟩
          have : ruleL (bl s) = false := by
            unfold ruleL
            rw [hq1, show (q1 == 1) = false by rw [beq_eq_false_iff_ne]; exact hq]
            simp
          rw [this]
        clear hq1
        go_wp2
        go_ret
        exact HR.out

set_option maxHeartbeats 400000 in
theorem law_any (s : ByteArray) (hs : s.size ≤ maxLen) (w : World) : Calls Try.prog 3 #[.string s] w fun e w' => BoolR true w e w' := by
  have HS : Hid (s.size ≤ maxLen) := hs
  have HR : Hid (BoolR true w (.returned (.bool true)) w) := ⟨rfl, rfl⟩
  unfold maxLen at hs
  go_enter Try.func3, Try.ntmps3
  go_wp2_with fail
  refine (bytes_any s HS.out w).mono ?_
  rintro e w1 ⟨rfl, rfl⟩
  by_cases hb : s.size ≤ 1048576
  · rw [decide_eq_true hb]
    go_wp2_with fail
    refine (valid_any s HS.out _).mono ?_
    rintro e w2 ⟨rfl, rfl⟩
    go_wp2_with fail
    refine (rule_any s HS.out _).mono ?_
    rintro e w3 ⟨rfl, rfl⟩
    rw [rule_valid (bl s) (bl_small s)]
    go_wp2
    go_ret
    exact HR.out
  · rw [decide_eq_false hb]
    go_wp2
    go_ret
    exact HR.out
end Go.Proofs.Qxb6605434a
