/-
  Slices of strings that are read; copies of them.
-/
import Derived.Test.Qxb6600501aProg
import Derived.Test.Qxb6600501aBase
namespace Go.Proofs.Qxb6600501a
open Go.RowKit

/-- A slice of strings that is read: ns. -/
def SSl (w : World) (v : Value) (ns : List ByteArray) : Prop :=
  ∃ ao cap, v = .slice ao ns.length cap ∧ ns.length ≤ maxLen ∧ (ao = none → ns = [] ∧ cap = 0) ∧
    ∀ i, (hi : i < ns.length) → ∃ b off, ao = some ⟨b, off, none⟩ ∧ w.cell? ⟨b, off + i, none⟩ = some (.string ns[i])
theorem SSl.later {w w' : World} {v : Value} {ns : List ByteArray} (h : SSl w v ns) (hb : Below w.heap.size w w') : SSl w' v ns := by
  obtain ⟨ao, cap, h1, h2, h3, h4⟩ := h
  refine ⟨ao, cap, h1, h2, h3, fun i hi => ?_⟩
  obtain ⟨b, off, e1, e2⟩ := h4 i hi
  exact ⟨b, off, e1, cell_later hb e2⟩
theorem SSl.nil (w : World) : SSl w (.slice none 0 0) [] :=
  ⟨none, 0, rfl, Nat.zero_le _, fun _ => ⟨rfl, rfl⟩, fun i hi => by simp at hi⟩
theorem Rw.ssl {w : World} {b : Nat} {e : TypeId} {ns : List ByteArray} (h : Rw w b e (ns.map .string)) (hm : ns.length ≤ maxLen) (cap : Nat) : SSl w (.slice (some ⟨b, 0, none⟩) ns.length cap) ns :=
  ⟨_, cap, rfl, hm, (fun h => by cases h), fun i hi => ⟨b, 0, rfl, by rw [Nat.zero_add, h.cell]; simp [hi]⟩⟩
def RetB (e : Ending) : Prop := ∃ r, e = .returned (.bool r)
theorem RetB.mk (r : Bool) : RetB (.returned (.bool r)) := ⟨r, rfl⟩
def CloneR (w : World) (ns : List ByteArray) (e : Ending) (w' : World) : Prop := ∃ v, e = .returned v ∧ SSl w' v ns ∧ Below w.heap.size w w'
def CntR (w : World) (e : Ending) (w' : World) : Prop := (∃ t : Nat, e = .returned (.int .i64 (t : Int)) ∧ t ≤ 1048577) ∧ w' = w

set_option maxHeartbeats 400000 in
theorem bytes_any (v : Value) (ns : List ByteArray) (s : ByteArray) (w : World) (hv : SSl w v ns) (hs : s.size ≤ 9223372036854775807) (hn : ∀ x ∈ ns, x.size ≤ 9223372036854775807) :
    Calls Try.prog 12 #[v, .string s] w fun e w' => RetB e ∧ w' = w := by
  obtain ⟨ao, cap, rfl, hm, hnil, hcell⟩ := hv
  unfold maxLen at hm
  clear hnil
  have HN : Hid (∀ x ∈ ns, x.size ≤ 9223372036854775807) := hn
  clear hn
  by_cases h1 : (1048576 : Int) < (ns.length : Int)
  · clear hcell
    go_enter Try.func12, Try.ntmps12
    go_wp2
    go_ret
    exact ⟨RetB.mk _, rfl⟩
  · have HC : Hid (∀ i, (hi : i < ns.length) → ∃ b off, ao = some ⟨b, off, none⟩ ∧ w.cell? ⟨b, off + i, none⟩ = some (.string ns[i])) := hcell
    clear hcell
    go_enter Try.func12, Try.ntmps12
    go_wp2
    go_loop [5, 6] (fun z i => ∃ k t : Nat, k ≤ ns.length ∧ t ≤ 1048576 ∧ z = .int .i64 t ∧ i = .int .i64 k) (fun _ i => ns.length - (intOf i).toNat)
    case atStart => exact ⟨0, ns.length, Nat.zero_le _, by omega, rfl, rfl⟩
    case round =>
      obtain ⟨k, t, hk, ht, rfl, rfl⟩ := hrel
      by_cases hlt : k < ns.length
      · obtain ⟨b, off, rfl, hc⟩ := HC.out k hlt
        have hsz : ns[k].size ≤ 9223372036854775807 := HN.out _ (List.getElem_mem hlt)
        generalize ns[k] = nk at *
        clear HC
        go_wp2
        · go_ret; exact ⟨RetB.mk _, rfl⟩
        · go_ret; exact ⟨RetB.mk _, rfl⟩
        · go_round
          case rel => exact ⟨k + 1, t + nk.size, by omega, by omega, by go_num, by go_num⟩
          case measure => simp [intOf]; omega
      · clear HC
        go_wp2
        all_goals (go_ret; exact ⟨RetB.mk _, rfl⟩)

set_option maxHeartbeats 400000 in
theorem names_any (v : Value) (ns : List ByteArray) (w : World) (hv : SSl w v ns) (hl : ns.length ≤ 65536) (hn : ∀ x ∈ ns, x.size ≤ 9223372036854775807) :
    Calls Try.prog 13 #[v] w fun e w' => CntR w e w' := by
  obtain ⟨ao, cap, rfl, hm, hnil, hcell⟩ := hv
  unfold maxLen at hm
  clear hnil
  have HN : Hid (∀ x ∈ ns, x.size ≤ 9223372036854775807) := hn
  have HC : Hid (∀ i, (hi : i < ns.length) → ∃ b off, ao = some ⟨b, off, none⟩ ∧ w.cell? ⟨b, off + i, none⟩ = some (.string ns[i])) := hcell
  have HX : Hid (CntR w (.returned (.int .i64 1048577)) w) := ⟨⟨1048577, rfl, Nat.le_refl _⟩, rfl⟩
  clear hcell hn
  go_enter Try.func13, Try.ntmps13
  go_wp2
  go_loop [3, 4] (fun z i => ∃ k t : Nat, k ≤ ns.length ∧ t ≤ 1048576 ∧ z = .int .i64 t ∧ i = .int .i64 k) (fun _ i => ns.length - (intOf i).toNat)
  case atStart => exact ⟨0, 0, Nat.zero_le _, by omega, rfl, rfl⟩
  case round =>
    obtain ⟨k, t, hk, ht, rfl, rfl⟩ := hrel
    by_cases hlt : k < ns.length
    · obtain ⟨b, off, rfl, hc⟩ := HC.out k hlt
      have hsz : ns[k].size ≤ 9223372036854775807 := HN.out _ (List.getElem_mem hlt)
      generalize ns[k] = nk at *
      clear HC
      go_wp2
      · go_ret; exact HX.out
      · go_ret; exact HX.out
      · go_round
        case rel => exact ⟨k + 1, t + (16 + nk.size), by omega, by omega, by go_num, by go_num⟩
        case measure => simp [intOf]; omega
    · clear HC
      go_wp2
      go_ret
      exact ⟨⟨t, rfl, by omega⟩, rfl⟩

theorem Try.info9 : (Try.prog.info? 9).map (fun i => (i.zero, i.size, i.bytes)) = some (some (.string ⟨#[]⟩), 1, 16) := by kernel_rfl
theorem eq_set_of_take {α : Type} {zs xs : List α} {k : Nat} (hl : xs.length = zs.length) (h : xs.take k = zs.take k) (hk : k < zs.length) : (xs.set k zs[k]).take (k + 1) = zs.take (k + 1) := by
  apply List.ext_getElem?
  intro j
  have hj := congrArg (fun l => l[j]?) h
  simp only [List.getElem?_take] at hj ⊢
  by_cases e : k = j
  · subst e
    rw [List.getElem?_set_self (by omega)]
    simp [hk]
  · rw [List.getElem?_set_ne e]
    by_cases hjk : j < k
    · rw [if_pos (by omega), if_pos (by omega)]
      rw [if_pos hjk, if_pos hjk] at hj
      exact hj
    · rw [if_neg (by omega), if_neg (by omega)]

set_option maxHeartbeats 400000 in
theorem clone_any (v : Value) (zs : List ByteArray) (w : World) (hv : SSl w v zs) (hs : zs.length ≤ 1048576) :
    Calls Try.prog 14 #[v] w fun e w' => CloneR w zs e w' := by
  obtain ⟨i0, hi, hz0, hz1, hz2⟩ := info_parts Try.info9
  obtain ⟨ao, cap, rfl, hm, hnil, hcell⟩ := hv
  unfold maxLen at hm
  have q25 : ∀ (w : World) (a : Option Addr) (n c : Nat), (binOp .eql 25 (.slice a n c) (.slice none 0 0)).run Try.prog w = .ok (.bool a.isNone) w := fun w a n c => Lib.run_eql_slice_nil w _ _ a n c _ _ Try.underlying25
  cases ao with
  | none =>
    obtain ⟨rfl, rfl⟩ := hnil rfl
    clear hcell hnil
    go_enter Try.func14, Try.ntmps14
    go_wp2
    go_ret
    exact ⟨_, rfl, SSl.nil _, Below.refl _ _⟩
  | some p =>
  clear hnil
  have HC : Hid (∀ i, (hi : i < zs.length) → ∃ b off, some p = some ⟨b, off, none⟩ ∧ w.cell? ⟨b, off + i, none⟩ = some (.string zs[i])) := hcell
  clear hcell
  obtain ⟨H, hH⟩ := size_name w
  have HH : Hid (w.heap.size = H) := hH
  clear hH
  go_enter Try.func14, Try.ntmps14
  go_wp2_with (at_make; refine wpList_mk _ rfl _ _ _ rfl 9 i0 (.string ⟨#[]⟩) 16 Try.underlying25 hi hz0 hz1 hz2 rfl _ _ _ _ zs.length rfl rfl rfl rfl (by omega) (by unfold maxLen; omega) H HH.out ?_; intro w1 hr hb hsz)
  have HB : Hid (Below H w w1) := hb
  have HR : Hid (Rw w1 H 9 (List.replicate zs.length (.string ⟨#[]⟩))) := hr
  clear hb hr hsz q25
  go_wp2
  go_loopw [4] (fun i wr => ∃ (k : Nat) (xs : List ByteArray), k ≤ zs.length ∧ i = .int .i64 k ∧ Hid (Rw wr H 9 (xs.map .string) ∧ xs.length = zs.length ∧ xs.take k = zs.take k ∧ Below H w wr)) (fun i _ => zs.length - (intOf i).toNat)
  case atStart => exact ⟨0, List.replicate zs.length ⟨#[]⟩, Nat.zero_le _, rfl, by simpa using HR.out, by simp, by simp, HB.out⟩
  case round =>
    obtain ⟨k, xs, hk, rfl, hh⟩ := hrel
    by_cases hlt : k < zs.length
    · obtain ⟨b, off, e0, hc⟩ := HC.out k hlt
      cases e0
      obtain ⟨r1, r2, r3, r4⟩ := hh.out
      have hlt' : b < H := by rw [← HH.out]; exact cell_at hc
      have c1 : wr.cell? ⟨b, off + k, none⟩ = some (.string zs[k]) := by rw [(bcell r4).1 b (off + k) hlt']; exact hc
      obtain ⟨u2, c2⟩ := r1.there (o := k) (by simp; omega)
      have c3 : wr.frozen? ⟨H, k, none⟩ = false := r1.frozen k
      have HN : Hid (Rw (wr.setCell ⟨H, k, none⟩ (.string zs[k])) H 9 ((xs.set k zs[k]).map .string) ∧ (xs.set k zs[k]).length = zs.length ∧ (xs.set k zs[k]).take (k + 1) = zs.take (k + 1) ∧ Below H w (wr.setCell ⟨H, k, none⟩ (.string zs[k]))) := by
        refine ⟨?_, by simpa using r2, eq_set_of_take r2 r3 hlt, r4.setCell (Nat.le_refl _) _⟩
        rw [List.map_set]
        exact r1.set k _
      clear r1 r2 r3 r4 hh HC hc HR HB
      go_wp2
      go_roundw
      case rel => exact ⟨k + 1, _, by omega, by go_num, HN⟩
      case measure => simp [intOf]; omega
    · go_wp2
      go_ret
      obtain ⟨r1, r2, r3, r4⟩ := hh.out
      rw [List.take_of_length_le (by omega), List.take_of_length_le (by omega)] at r3
      subst r3
      refine ⟨_, rfl, r1.ssl (by unfold maxLen; omega) _, ?_⟩
      rw [HH.out]; exact r4
end Go.Proofs.Qxb6600501a
