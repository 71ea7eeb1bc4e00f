/-
  The shim's two converters: zzB1ToColumn (f20), zzB1FromColumn (f22): the nine cells stay as they are. itoa (f19): some short string.
-/
import Derived.Test.Qxb6600501aStr
import Derived.Deep.MidRow
import Derived.Deep.CutBlock
import Derived.Laws.BytesArg
namespace Go.Proofs.Qxb6600501a
open Go.RowKit

/-- A column's nine cells. -/
structure Col where
  a : ByteArray
  b : ByteArray
  c : Bool
  d : Bool
  e : ByteArray
  f : ByteArray
  g : ByteArray
  h : ByteArray
  i : ByteArray
def Col.cells (c : Col) : List Value := [.string c.a, .string c.b, .bool c.c, .bool c.d, .string c.e, .string c.f, .string c.g, .string c.h, .string c.i]
def Col.v (c : Col) : Value := .agg c.cells.toArray
def IdR (v : Value) (w : World) (e : Ending) (w' : World) : Prop := e = .returned v ∧ Below w.heap.size w w'
set_option maxRecDepth 100000 in
theorem from_any (w : World) (c : Col) : Calls Try.prog 22 #[c.v] w fun r w' => IdR c.v w r w' := by
  obtain ⟨a, b, c, d, e, f, g, h, i⟩ := c
  unfold Col.v Col.cells
  go_enter Try.func22, Try.ntmps22
  go_wp2
  exact bodyPost_ret (v := .agg #[.string a, .string b, .bool c, .bool d, .string e, .string f, .string g, .string h, .string i]) (by simp [results, Try.results22, go_sem]) rfl ⟨rfl, (below_laid _ _).alloc (by simp) _⟩
set_option maxRecDepth 100000 in
theorem to_any (w : World) (c : Col) : Calls Try.prog 20 #[c.v] w fun r w' => IdR c.v w r w' := by
  obtain ⟨a, b, c, d, e, f, g, h, i⟩ := c
  unfold Col.v Col.cells
  go_enter Try.func20, Try.ntmps20
  go_wp2
  exact bodyPost_ret (v := .agg #[.string a, .string b, .bool c, .bool d, .string e, .string f, .string g, .string h, .string i]) (by simp [results, Try.results20, go_sem]) rfl ⟨rfl, (below_laid _ _).alloc (by simp) _⟩

theorem slice24 (w : World) (H i : Nat) (hi : i < 24) : (Instr.sliceAt 49 (.pointer (some ⟨H, 0, none⟩)) (some (.int .i64 (i : Int))) none none).run Try.prog w = .ok (.slice (some ⟨H, i, none⟩) (24 - i) (24 - i)) w := by
  have e1 : Try.prog.arrayLen 49 = 24 := by kernel_rfl
  have e2 : Try.prog.elem 49 = 5 := by kernel_rfl
  have e3 : ∃ j, Try.prog.info? 5 = some j ∧ j.size = 1 := by
    have h : (Try.prog.info? 5).map (·.size) = some 1 := by kernel_rfl
    cases hj : Try.prog.info? 5 with
    | none => rw [hj] at h; cases h
    | some j => rw [hj] at h; exact ⟨j, rfl, by simpa using h⟩
  obtain ⟨j, hj1, hj2⟩ := e3
  rw [run_sliceAt_array_l w 49 _ (by rw [e1, e2]; exact Try.underlying49) .i64 (i : Int) (by omega) (by rw [e1]; omega), e1, e2]
  have hs : (sizeOf 5).run Try.prog w = .ok 1 w := by simp [sizeOf, typeInfo, hj1, hj2]
  rw [hs]
  simp only [Result.andThen, slicedAt, Int.toNat_natCast, Nat.mul_one]
  rw [if_neg (by omega), Addr.add_mid]
  simp
/-- A short string. -/
def ShortR (w : World) (r : Ending) (w' : World) : Prop := ∃ s : ByteArray, r = .returned (.string s) ∧ s.size ≤ 24 ∧ Below w.heap.size w w'
set_option maxRecDepth 100000 in
theorem itoa_any (w : World) (n : Nat) (hn : n ≤ 1000000) : Calls Try.prog 19 #[.int .i64 n] w fun r w' => ShortR w r w' := by
  by_cases h0 : n = 0
  · subst h0
    go_enter Try.func19, Try.ntmps19
    go_wp2
    go_ret
    exact ⟨_, rfl, by decide, Below.refl _ _⟩
  · have hp : ¬ (n : Int) ≤ 0 := by omega
    obtain ⟨H, hH⟩ := size_name w
    have HH : Hid (w.heap.size = H) := hH
    clear hH
    go_enter Try.func19, Try.ntmps19
    go_upto_block 0 with fail
    have HR0 : Hid (Rw (w.alloc (.cells ((List.replicate 24 (0 : Int)).map (.int .u8)).toArray 49)) H 49 ((List.replicate 24 (0 : Int)).map (.int .u8)) ∧ Below H w (w.alloc (.cells ((List.replicate 24 (0 : Int)).map (.int .u8)).toArray 49))) := by
      rw [← HH.out]
      exact ⟨Rw.new _ _ _, below_laid _ _⟩
    go_wp2
    rw [HH.out]
    go_loopw [0, 4] (fun a b wr => ∃ (m i k : Nat) (bs : List Int), i = 17 + k ∧ i ≤ 24 ∧ (i = 24 → 0 < m) ∧ m < 10 ^ k ∧ bs.length = 24 ∧ a = .int .i64 m ∧ b = .int .i64 i ∧ Hid (Rw wr H 49 (bs.map (.int .u8)) ∧ Below H w wr)) (fun a _ _ => (intOf a).toNat)
    case atStart =>
      exact ⟨n, 24, 7, List.replicate 24 0, rfl, Nat.le_refl _, fun _ => by omega, by omega, by simp, rfl, rfl, HR0⟩
    case round =>
      obtain ⟨m, i, k, bs, hik, hi24, him, hm, hbs, rfl, rfl, HR⟩ := hrel
      clear HR0
      by_cases hm0 : 0 < m
      · obtain ⟨k', rfl⟩ : ∃ k', k = k' + 1 := by
          cases k with
          | zero => simp at hm; omega
          | succ k => exact ⟨k, rfl⟩
        obtain ⟨i', rfl⟩ : ∃ i', i = i' + 1 := ⟨17 + k', by omega⟩
        obtain ⟨u, hu⟩ := HR.out.1.there (o := i') (by rw [List.length_map, hbs]; omega)
        have hf : wr.frozen? ⟨H, i', none⟩ = false := HR.out.1.frozen _
        have HMD : Hid (m / 10 < 10 ^ k') := by show _ < _; rw [Nat.div_lt_iff_lt_mul (by omega)]; rw [Nat.pow_succ] at hm; exact hm
        have HIK : Hid (i' = 17 + k') := by show _ = _; omega
        have hm6 : m < 10000000 := by
          have : 10 ^ (k' + 1) ≤ 10 ^ 7 := Nat.pow_le_pow_right (by omega) (by omega)
          omega
        have HS : Hid (∀ z : Int, Rw (wr.setCell ⟨H, i', none⟩ (.int .u8 z)) H 49 ((bs.set i' z).map (.int .u8)) ∧ Below H w (wr.setCell ⟨H, i', none⟩ (.int .u8 z))) := fun z => by
          refine ⟨?_, HR.out.2.setCell (p := ⟨H, i', none⟩) (Nat.le_refl _) _⟩
          rw [List.map_set]; exact HR.out.1.set _ _
        have hq : (m : Int).tdiv 10 = ((m / 10 : Nat) : Int) := by rw [Int.tdiv_eq_ediv_of_nonneg (by omega)]; omega
        clear HR hm hik
        go_wp2
        go_roundw
        case rel => exact ⟨m / 10, i', k', bs.set i' _, HIK.out, by omega, fun h => by omega, HMD.out, by rw [List.length_set]; exact hbs, by go_num, by go_num, HS.out _⟩
        case measure => simp [intOf]; omega
      · have hcv : ∀ dst, Try.prog.underlying dst = some .string → (convert 50 dst (.slice (some ⟨H, i, none⟩) (24 - i) (24 - i))).run Try.prog wr = .ok (.string (strOfNums (bs.drop i))) wr :=
          run_convert_bytes_arg wr 50 5 Try.underlying50 Try.underlying5 H i (24 - i) (24 - i) (bs.drop i) (by rw [List.length_drop, hbs]) (fun j hj => by
            rw [HR.out.1.cell, List.getElem?_map, List.getElem?_eq_getElem (by omega)]
            simp [List.getElem?_eq_getElem (show i + j < bs.length by omega)])
        have hcv9 := hcv 9 Try.underlying9
        have HE : Hid (ShortR w (.returned (.string (strOfNums (bs.drop i)))) wr) := ⟨_, rfl, by rw [strOfNums_size, List.length_drop, hbs]; omega, by rw [HH.out]; exact HR.out.2⟩
        have hi23 : i < 24 := by omega
        have hsl := fun w => slice24 w H i hi23
        clear HR hcv hm hik him hi24
        go_wp2
        go_ret
        exact HE.out
end Go.Proofs.Qxb6600501a
