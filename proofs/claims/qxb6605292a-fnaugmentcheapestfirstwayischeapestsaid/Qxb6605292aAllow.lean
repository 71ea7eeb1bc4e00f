/-
  zzAllowed (f54).
-/
import Derived.Test.Qxb6605292aRead
namespace Go.Proofs.Qxb6605292a
open Go.RowKit

/-- The blocked row as a value: nil, or as many bools as there are generals at least. -/
def BlkV (w : World) (v : Value) (n : Nat) : Option (List Bool) → Prop
  | none => v = .slice none 0 0
  | some bs => n ≤ bs.length ∧ bs.length ≤ maxLen ∧ ∃ b off cap, v = .slice (some ⟨b, off, none⟩) bs.length cap ∧ ∀ i, (hi : i < bs.length) → w.cell? ⟨b, off + i, none⟩ = some (.bool bs[i])
theorem BlkV.later {w w' : World} {v : Value} {n : Nat} {blk : Option (List Bool)} (h : BlkV w v n blk) (hb : Below w.heap.size w w') : BlkV w' v n blk := by
  cases blk with
  | none => exact h
  | some bs =>
    obtain ⟨h1, h2, b, off, cap, h3, h4⟩ := h
    exact ⟨h1, h2, b, off, cap, h3, fun i hi => cell_later hb (h4 i hi)⟩
/-- May a unit pass through node x? -/
def allowB (n sink : Nat) (blk : Option (List Bool)) (x : Nat) : Bool := decide (x = 2 * n) || (decide (x = sink) || match blk with
  | none => true
  | some bs => !bs.getD (x / 2) false)
theorem BlkV.form {w : World} {v : Value} {n : Nat} {blk : Option (List Bool)} (h : BlkV w v n blk) : ∃ ao l c, v = .slice ao l c := by
  cases blk with
  | none => exact ⟨_, _, _, h⟩
  | some bs => obtain ⟨_, _, b, off, cap, h3, _⟩ := h; exact ⟨_, _, _, h3⟩
def AllR (w : World) (r : Bool) (e : Ending) (w' : World) : Prop := e = .returned (.bool r) ∧ w' = w

set_option maxHeartbeats 800000 in
theorem allowed_any (x n sink : Nat) (blk : Option (List Bool)) (v : Value) (w : World) (hv : BlkV w v n blk) (hx : x < 2 * n + 1) (hn : n ≤ 256) (hs : sink < 2 * n) :
    Calls Try.prog 54 #[.int .i64 x, .int .i64 n, .int .i64 sink, v] w fun e w' => AllR w (allowB n sink blk x) e w' := by
  have hw1 : IntKind.i64.wrap (2 * (n : Int)) = 2 * n := by rw [IntKind.wrap_i64]; omega
  have q36 : ∀ (w : World) (a : Option Addr) (n c : Nat), (binOp .eql 36 (.slice a n c) (.slice none 0 0)).run Try.prog w = .ok (.bool a.isNone) w := fun w a n c => Lib.run_eql_slice_nil w _ _ a n c _ _ Try.underlying36
  obtain ⟨ao, ln, cp, rfl⟩ := hv.form
  by_cases h1 : x = 2 * n
  · have HR : Hid (AllR w (allowB n sink blk x) (.returned (.bool true)) w) := ⟨by simp [allowB, h1], rfl⟩
    have hb : ((x : Int) == 2 * (n : Int)) = true := by rw [beq_iff_eq]; omega
    clear hv
    go_enter Try.func54, Try.ntmps54
    go_wp2
    go_ret
    exact HR.out
  · have hb1 : ((x : Int) == 2 * (n : Int)) = false := by rw [beq_eq_false_iff_ne]; omega
    by_cases h2 : x = sink
    · have HR : Hid (AllR w (allowB n sink blk x) (.returned (.bool true)) w) := ⟨by simp [allowB, h2], rfl⟩
      have hb2 : ((x : Int) == (sink : Int)) = true := by rw [beq_iff_eq]; omega
      clear hv
      go_enter Try.func54, Try.ntmps54
      go_wp2
      go_ret
      exact HR.out
    · have hb2 : ((x : Int) == (sink : Int)) = false := by rw [beq_eq_false_iff_ne]; omega
      cases blk with
      | none =>
        have HR : Hid (AllR w (allowB n sink none x) (.returned (.bool true)) w) := ⟨by simp [allowB], rfl⟩
        injection hv with e1 e2 e3
        subst e1 e2 e3
        go_enter Try.func54, Try.ntmps54
        go_wp2
        go_ret
        exact HR.out
      | some bs =>
        obtain ⟨k1, k2, b, off, cap, e0, hc⟩ := hv
        injection e0 with e1 e2 e3
        subst e1 e2 e3
        unfold maxLen at k2
        have hq : (x : Int).tdiv 2 = ((x / 2 : Nat) : Int) := by rw [Int.tdiv_eq_ediv_of_nonneg (by omega)]; omega
        have hxl : x / 2 < bs.length := by omega
        have c1 := hc (x / 2) hxl
        have HR : Hid (AllR w (allowB n sink (some bs) x) (.returned (.bool (!bs[x / 2]))) w) := by
          refine ⟨?_, rfl⟩
          simp [allowB, h1, h2, hxl]
        generalize bs[x / 2] = bx at *
        obtain ⟨y, hy⟩ : ∃ y, x / 2 = y := ⟨_, rfl⟩
        rw [hy] at hq hxl c1
        clear hc hy
        go_enter Try.func54, Try.ntmps54
        go_wp2
        go_ret
        exact HR.out
end Go.Proofs.Qxb6605292a
