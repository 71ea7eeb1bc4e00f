/-
  zzCountIn (f7), ValidName (f5), zzNameRule (f6), zzBytes (f4), walked.
-/
import Derived.Test.Qxb6605434aPlain
import Derived.ProofKit
namespace Go.Proofs.Qxb6605434a
open Go.RowKit

theorem run_at (s : ByteArray) (i : Nat) (h : i < s.size) (w : World) : (Instr.index 9 (.string s) (.int .i64 (i : Int))).run Try.prog w = .ok (.int .u8 (((bl s)[i]'(by rw [bl_len]; exact h) : Nat) : Int)) w := by
  rw [run_index_string (P := Try.prog) w 9 s .i64 (i : Int) Try.underlying9, dif_pos (by omega)]
  have e := bl_get s i h
  have : (s[(i : Int).toNat]'(by omega)).toNat = (bl s)[i]'(by rw [bl_len]; exact h) := e
  rw [this]

def CntR (s t : ByteArray) (w : World) (e : Ending) (w' : World) : Prop := e = .returned (.int .i64 (cntIn (bl s) (bl t) : Nat)) ∧ w' = w
set_option maxHeartbeats 400000 in
theorem countIn_any (s t : ByteArray) (w : World) (hs : s.size ≤ 64) (ht : t.size ≤ 65) :
    Calls Try.prog 7 #[.string s, .string t] w fun e w' => CntR s t w e w' := by
  have hls := bl_len s
  have hlt := bl_len t
  have hbig : ∀ j, cntIn (bl s) ((bl t).take j) ≤ 65 * 64 := fun j => by
    have h1 := cntIn_le (bl s) ((bl t).take j)
    have h2 : ((bl t).take j).length * (bl s).length ≤ 65 * 64 := Nat.mul_le_mul (by rw [List.length_take]; omega) (by omega)
    omega
  have HB : Hid (∀ j, cntIn (bl s) ((bl t).take j) ≤ 65 * 64) := hbig
  have HLS : Hid ((bl s).length = s.size) := hls
  have HLT : Hid ((bl t).length = t.size) := hlt
  clear hbig hls hlt
  go_enter Try.func7, Try.ntmps7
  go_wp2
  go_loopw [5, 6] (fun n c wr => ∃ j : Nat, j ≤ t.size ∧ c = .int .i64 j ∧ n = .int .i64 ((cntIn (bl s) ((bl t).take j) : Nat) : Int) ∧ Hid (w = wr)) (fun _ c _ => t.size - (intOf c).toNat)
  case atStart => exact ⟨0, Nat.zero_le _, rfl, by simp [cntIn], rfl⟩
  case round =>
    obtain ⟨j, hj, rfl, rfl, HW⟩ := hrel
    by_cases hjl : j < t.size
    · have hrj := run_at t j hjl
      have HT : Hid (cntIn (bl s) ((bl t).take (j + 1)) = cntIn (bl s) ((bl t).take j) + (bl s).count ((bl t)[j]'(by rw [bl_len]; exact hjl))) := cntIn_take _ _ _ _
      generalize (bl t)[j]'(by rw [bl_len]; exact hjl) = c at *
      have hb := HB.out j
      generalize cntIn (bl s) ((bl t).take j) = q at *
      go_wp2
      go_loopw [5, 8] (fun n c1 wr => ∃ i : Nat, i ≤ s.size ∧ c1 = .int .i64 i ∧ n = .int .i64 ((q + ((bl s).take i).count c : Nat) : Int) ∧ Hid (w = wr)) (fun _ c _ => s.size - (intOf c).toNat)
      case atStart => exact ⟨0, Nat.zero_le _, rfl, by simp, HW⟩
      case round =>
        clear HW
        obtain ⟨i, hi, rfl, rfl, HW⟩ := hrel
        clear hrj
        have hcl : ((bl s).take i).count c ≤ 64 := by
          have h1 : ((bl s).take i).count c ≤ ((bl s).take i).length := List.count_le_length
          have h2 := HLS.out
          rw [List.length_take] at h1
          omega
        by_cases hil : i < s.size
        · have hri := run_at s i hil
          have HI : Hid (((bl s).take (i + 1)).count c = ((bl s).take i).count c + if (bl s)[i]'(by rw [bl_len]; exact hil) = c then 1 else 0) := count_take _ _ _ _
          generalize (bl s)[i]'(by rw [bl_len]; exact hil) = d at *
          by_cases hdc : d = c
          · have hdc' : (d : Int) = (c : Int) := by omega
            have HI' : Hid (((bl s).take (i + 1)).count c = ((bl s).take i).count c + 1) := by rw [HI.out, if_pos hdc]; exact rfl
            clear HI
            go_wp2
            go_roundw
            case rel =>
              refine ⟨i + 1, by omega, by go_num, ?_, HW⟩
              rw [HI'.out]
              exact congrArg (Value.int IntKind.i64) (by omega)
            case measure => simp [intOf]; omega
          · have hdc' : ¬ (d : Int) = (c : Int) := by omega
            have HI' : Hid (((bl s).take (i + 1)).count c = ((bl s).take i).count c) := by rw [HI.out, if_neg hdc]; exact rfl
            clear HI
            go_wp2
            go_roundw
            case rel =>
              refine ⟨i + 1, by omega, by go_num, ?_, HW⟩
              rw [HI'.out]
            case measure => simp [intOf]; omega
        · have HE : Hid (((bl s).take i).count c = (bl s).count c) := by
            show _ = _
            rw [List.take_of_length_le (by have := HLS.out; omega)]
          go_wp2
          go_roundw
          case rel =>
            refine ⟨j + 1, by omega, by go_num, ?_, HW⟩
            rw [HT.out, HE.out]
          case measure => simp [intOf]; omega
    · have HE : Hid (cntIn (bl s) ((bl t).take j) = cntIn (bl s) (bl t)) := by
        show _ = _
        rw [List.take_of_length_le (by have := HLT.out; omega)]
      go_wp2
      go_ret
      exact ⟨by rw [HE.out]; rfl, HW.out.symm⟩

def BoolR (b : Bool) (w : World) (e : Ending) (w' : World) : Prop := e = .returned (.bool b) ∧ w' = w
theorem bytes_any (s : ByteArray) (hs : s.size ≤ maxLen) (w : World) : Calls Try.prog 4 #[.string s] w fun e w' => BoolR (decide (s.size ≤ 1048576)) w e w' := by
  unfold maxLen at hs
  by_cases h : s.size ≤ 1048576
  · have HR : Hid (BoolR (decide (s.size ≤ 1048576)) w (.returned (.bool true)) w) := ⟨by rw [decide_eq_true h], rfl⟩
    go_enter Try.func4, Try.ntmps4
    go_wp2
    go_ret
    exact HR.out
  · have HR : Hid (BoolR (decide (s.size ≤ 1048576)) w (.returned (.bool false)) w) := ⟨by rw [decide_eq_false h], rfl⟩
    go_enter Try.func4, Try.ntmps4
    go_wp2
    go_ret
    exact HR.out

theorem class_of (c : Nat) : c < 45 ∨ c = 45 ∨ c = 46 ∨ c = 47 ∨ (48 ≤ c ∧ c ≤ 57) ∨ (58 ≤ c ∧ c ≤ 64) ∨ (65 ≤ c ∧ c ≤ 90) ∨ (91 ≤ c ∧ c ≤ 94) ∨ c = 95 ∨ c = 96 ∨ (97 ≤ c ∧ c ≤ 122) ∨ 123 ≤ c := by omega

set_option maxHeartbeats 1000000 in
theorem valid_any (s : ByteArray) (hs : s.size ≤ maxLen) (w : World) : Calls Try.prog 5 #[.string s] w fun e w' => BoolR (validL (bl s)) w e w' := by
  unfold maxLen at hs
  have hls := bl_len s
  by_cases h0 : s.size = 0
  · have HR : Hid (BoolR (validL (bl s)) w (.returned (.bool false)) w) := by
      refine ⟨?_, rfl⟩
      have : validL (bl s) = false := by unfold validL; rw [hls, h0]; rfl
      rw [this]
    clear hls
    go_enter Try.func5, Try.ntmps5
    go_wp2
    go_ret
    exact HR.out
  · by_cases h1 : 64 < s.size
    · have HR : Hid (BoolR (validL (bl s)) w (.returned (.bool false)) w) := by
        refine ⟨?_, rfl⟩
        have : validL (bl s) = false := by unfold validL; rw [hls, decide_eq_false (by omega)]; simp
        rw [this]
      clear hls
      go_enter Try.func5, Try.ntmps5
      go_wp2
      go_ret
      exact HR.out
    · have HLS : Hid ((bl s).length = s.size) := hls
      have H0 : Hid (¬ s.size = 0) := h0
      have h0i : ((s.size : Int) == 0) = false := by rw [beq_eq_false_iff_ne]; omega
      have h1i : decide (64 < (s.size : Int)) = false := decide_eq_false (by omega)
      clear hls h0
      go_enter Try.func5, Try.ntmps5
      go_wp2
      go_loopw [16] (fun c wr => ∃ k : Nat, k ≤ s.size ∧ c = .int .i64 k ∧ Hid (okTo (bl s) k = true) ∧ Hid (w = wr)) (fun c _ => s.size - (intOf c).toNat)
      case atStart => exact ⟨0, Nat.zero_le _, rfl, rfl, rfl⟩
      case round =>
        obtain ⟨k, hk, rfl, HO, HW⟩ := hrel
        by_cases hlt : k < s.size
        · have hr := run_at s k hlt
          have hoa : okAt (bl s) k = (al ((bl s)[k]'(by rw [bl_len]; exact hlt)) || (k != 0 && dt ((bl s)[k]'(by rw [bl_len]; exact hlt)))) := by
            unfold okAt
            rw [List.getElem?_eq_getElem (by rw [bl_len]; exact hlt)]
          have HOA : Hid (okAt (bl s) k = (al ((bl s)[k]'(by rw [bl_len]; exact hlt)) || (k != 0 && dt ((bl s)[k]'(by rw [bl_len]; exact hlt))))) := hoa
          clear hoa
          generalize (bl s)[k]'(by rw [bl_len]; exact hlt) = c at *
          by_cases hz : k = 0
          · subst hz
            have hr0 : ∀ w, (Instr.index 9 (.string s) (.int .i64 0)).run Try.prog w = .ok (.int .u8 (c : Int)) w := hr
            clear hr
            cases hok : (al c || (0 != 0 && dt c)) with
            | true =>
              have HS : Hid (okTo (bl s) (0 + 1) = true) := by show _ = _; rw [okTo_succ, HO.out, HOA.out, hok]; rfl
              clear HOA
              rcases class_of c with h | h | h | h | h | h | h | h | h | h | h | h
              all_goals first
                | (exfalso; revert hok; simp only [al, dt]; intro hok; simp at hok; omega)
                | (clear hok; go_wp2; all_goals first | (exfalso; rename_i hx; simp at hx; omega) | (go_roundw; (case rel => exact ⟨1, hlt, rfl, HS, HW⟩); (case measure => simp [intOf]; omega)))
            | false =>
              have HS : Hid (BoolR (validL (bl s)) w (.returned (.bool false)) wr) := by
                refine ⟨?_, HW.out.symm⟩
                rw [okTo_no (bl s) 0 (by rw [HOA.out, hok]) (by rw [HLS.out]; exact hlt)]
              clear HOA
              rcases class_of c with h | h | h | h | h | h | h | h | h | h | h | h
              all_goals first
                | (exfalso; revert hok; simp only [al, dt]; intro hok; simp at hok; omega)
                | (clear hok; go_wp2; all_goals first | (exfalso; rename_i hx; simp at hx; omega) | (go_ret; exact HS.out))
          · have hz1 : 1 ≤ k := by omega
            have hkb : ((k : Int) == 0) = false := by rw [beq_eq_false_iff_ne]; omega
            cases hok : (al c || (k != 0 && dt c)) with
            | true =>
              have HS : Hid (okTo (bl s) (k + 1) = true) := by show _ = _; rw [okTo_succ, HO.out, HOA.out, hok]; rfl
              clear HOA
              rcases class_of c with h | h | h | h | h | h | h | h | h | h | h | h
              all_goals first
                | (exfalso; revert hok; simp only [al, dt]; intro hok; simp at hok; omega)
                | (clear hok; go_wp2; all_goals first | (exfalso; rename_i hx; simp at hx; omega) | (go_roundw; (case rel => exact ⟨k + 1, hlt, by go_num, HS, HW⟩); (case measure => simp [intOf]; omega)))
            | false =>
              have HS : Hid (BoolR (validL (bl s)) w (.returned (.bool false)) wr) := by
                refine ⟨?_, HW.out.symm⟩
                rw [okTo_no (bl s) k (by rw [HOA.out, hok]) (by rw [HLS.out]; exact hlt)]
              clear HOA
              rcases class_of c with h | h | h | h | h | h | h | h | h | h | h | h
              all_goals first
                | (exfalso; revert hok; simp only [al, dt]; intro hok; simp at hok; omega)
                | (clear hok; go_wp2; all_goals first | (exfalso; rename_i hx; simp at hx; omega) | (go_ret; exact HS.out))
        · have HS : Hid (BoolR (validL (bl s)) w (.returned (.bool true)) wr) := by
            refine ⟨?_, HW.out.symm⟩
            have : validL (bl s) = true := by
              have ho := HO.out
              have : k = s.size := by omega
              rw [this, ← HLS.out] at ho
              unfold validL
              rw [ho, HLS.out, decide_eq_true (by omega)]
              have := H0.out
              simp [this]
            rw [this]
          go_wp2
          go_ret
          exact HS.out
end Go.Proofs.Qxb6605434a
