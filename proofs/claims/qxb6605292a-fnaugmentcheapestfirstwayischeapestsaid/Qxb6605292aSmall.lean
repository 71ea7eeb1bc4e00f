/-
  Small functions of the laws on searches: zzBytes (f24, f34), zzCloneBools (f25), zzOpenSet (f26), zzSameRooms (f29).
-/
import Derived.Test.Qxb6605292aRead
namespace Go.Proofs.Qxb6605292a
open Go.RowKit

set_option maxHeartbeats 800000 in
theorem bytes3_any (n i i2 : Int) (lk : Bool) (vl vw vx : Value) (rows : List (List Int)) (ws : List Int) (xs : List Bool) (w : World) (hl : RSl w vl rows) (hw : KSl .i64 w vw ws) (hx : BSl w vx xs) :
    Calls Try.prog 24 #[.int .i64 n, .bool lk, vl, vw, .int .i64 i, vx, .int .i64 i2] w fun e w' => RetB e ∧ w' = w := by
  obtain ⟨ao, cap, rfl, hm, hnil, hcell⟩ := hl
  obtain ⟨wo, wcap, rfl, wm, wnil, wcell⟩ := hw
  obtain ⟨xo, xcap, rfl, xm, xnil, xcell⟩ := hx
  unfold maxLen at hm wm xm
  clear wcell wnil hnil xnil xcell
  by_cases h1 : (1048576 : Int) < (rows.length : Int)
  · clear hcell
    go_enter Try.func24, Try.ntmps24
    go_wp2
    go_ret
    exact ⟨RetB.mk _, rfl⟩
  · have hcell' := hcell
    clear hcell
    have HC : Hid (∀ i, (hi : i < rows.length) → ∃ b off rv, ao = some ⟨b, off, none⟩ ∧ w.cell? ⟨b, off + i, none⟩ = some rv ∧ KSl .i64 w rv rows[i]) := hcell'
    clear hcell'
    go_enter Try.func24, Try.ntmps24
    go_wp2
    go_loop [15, 16] (fun z i => ∃ k t : Nat, k ≤ rows.length ∧ t ≤ 1048576 ∧ z = .int .i64 t ∧ i = .int .i64 k) (fun _ i => rows.length - (intOf i).toNat)
    case atStart => exact ⟨0, rows.length, Nat.zero_le _, by omega, rfl, rfl⟩
    case round =>
      obtain ⟨k, t, hk, ht, rfl, rfl⟩ := hrel
      by_cases hlt : k < rows.length
      · obtain ⟨b, off, rv, rfl, hc, rao, rcap, rfl, rm, _, _⟩ := HC.out k hlt
        unfold maxLen at rm
        clear HC
        go_wp2
        · go_ret; exact ⟨RetB.mk _, rfl⟩
        · go_ret; exact ⟨RetB.mk _, rfl⟩
        · go_round
          case rel => exact ⟨k + 1, t + rows[k].length, by omega, by omega, by go_num, by go_num⟩
          case measure => simp [intOf]; omega
      · clear HC
        go_wp2
        all_goals (go_ret; exact ⟨RetB.mk _, rfl⟩)

set_option maxHeartbeats 800000 in
theorem bytes4_any (n i i2 : Int) (lk : Bool) (vl vw vx : Value) (rows : List (List Int)) (ws : List Int) (xs : List Bool) (w : World) (hl : RSl w vl rows) (hw : KSl .i64 w vw ws) (hx : BSl w vx xs) :
    Calls Try.prog 34 #[.int .i64 n, .bool lk, vl, vw, .int .i64 i, vx, .int .i64 i2] w fun e w' => RetB e ∧ w' = w := by
  obtain ⟨ao, cap, rfl, hm, hnil, hcell⟩ := hl
  obtain ⟨wo, wcap, rfl, wm, wnil, wcell⟩ := hw
  obtain ⟨xo, xcap, rfl, xm, xnil, xcell⟩ := hx
  unfold maxLen at hm wm xm
  clear wcell wnil hnil xnil xcell
  by_cases h1 : (1048576 : Int) < (rows.length : Int)
  · clear hcell
    go_enter Try.func34, Try.ntmps34
    go_wp2
    go_ret
    exact ⟨RetB.mk _, rfl⟩
  · have hcell' := hcell
    clear hcell
    have HC : Hid (∀ i, (hi : i < rows.length) → ∃ b off rv, ao = some ⟨b, off, none⟩ ∧ w.cell? ⟨b, off + i, none⟩ = some rv ∧ KSl .i64 w rv rows[i]) := hcell'
    clear hcell'
    go_enter Try.func34, Try.ntmps34
    go_wp2
    go_loop [15, 16] (fun z i => ∃ k t : Nat, k ≤ rows.length ∧ t ≤ 1048576 ∧ z = .int .i64 t ∧ i = .int .i64 k) (fun _ i => rows.length - (intOf i).toNat)
    case atStart => exact ⟨0, rows.length, Nat.zero_le _, by omega, rfl, rfl⟩
    case round =>
      obtain ⟨k, t, hk, ht, rfl, rfl⟩ := hrel
      by_cases hlt : k < rows.length
      · obtain ⟨b, off, rv, rfl, hc, rao, rcap, rfl, rm, _, _⟩ := HC.out k hlt
        unfold maxLen at rm
        clear HC
        go_wp2
        · go_ret; exact ⟨RetB.mk _, rfl⟩
        · go_ret; exact ⟨RetB.mk _, rfl⟩
        · go_round
          case rel => exact ⟨k + 1, t + rows[k].length, by omega, by omega, by go_num, by go_num⟩
          case measure => simp [intOf]; omega
      · clear HC
        go_wp2
        all_goals (go_ret; exact ⟨RetB.mk _, rfl⟩)

/-- A copy of a slice of bools: nil, or a block known whole. -/
def CBl (lo : Nat) (w : World) (v : Value) (zs : List Bool) : Prop :=
  (v = .slice none 0 0 ∧ zs = []) ∨ ∃ g, lo ≤ g ∧ v = .slice (some ⟨g, 0, none⟩) zs.length zs.length ∧ Rw w g 4 (zs.map .bool)
theorem CBl.bsl {lo : Nat} {w : World} {v : Value} {zs : List Bool} (h : CBl lo w v zs) (hm : zs.length ≤ maxLen) : BSl w v zs := by
  rcases h with ⟨rfl, rfl⟩ | ⟨g, _, rfl, hr⟩
  · exact BSl.nil _
  · exact hr.bsl hm _
def CloneBR (w : World) (zs : List Bool) (e : Ending) (w' : World) : Prop := ∃ v, e = .returned v ∧ CBl w.heap.size w' v zs ∧ Below w.heap.size w w'
theorem eq_set_of_take' {zs xs : List Bool} {k : Nat} (hl : xs.length = zs.length) (h : xs.take k = zs.take k) (hk : k < zs.length) : (xs.set k zs[k]).take (k + 1) = zs.take (k + 1) := by
  apply List.ext_getElem?
  intro j
  have hj := congrArg (fun l => l[j]?) h
  simp only [List.getElem?_take] at hj ⊢
  by_cases e : k = j
  · subst e
    rw [List.getElem?_set_self (by omega)]
    simp [hk]
  · rw [List.getElem?_set_ne e]
    by_cases hjk : j < k
    · rw [if_pos (by omega), if_pos (by omega)]
      rw [if_pos hjk, if_pos hjk] at hj
      exact hj
    · rw [if_neg (by omega), if_neg (by omega)]
set_option maxHeartbeats 400000 in
theorem cloneBools_any (v : Value) (zs : List Bool) (w : World) (hv : BSl w v zs) (hs : zs.length ≤ 1048576) :
    Calls Try.prog 25 #[v] w fun e w' => CloneBR w zs e w' := by
  obtain ⟨i0, hi, hz0, hz1, hz2⟩ := info_parts Try.info4
  obtain ⟨ao, cap, rfl, hm, hnil, hcell⟩ := hv
  unfold maxLen at hm
  have q23 : ∀ (w : World) (a : Option Addr) (n c : Nat), (binOp .eql 36 (.slice a n c) (.slice none 0 0)).run Try.prog w = .ok (.bool a.isNone) w := fun w a n c => Lib.run_eql_slice_nil w _ _ a n c _ _ Try.underlying36
  cases ao with
  | none =>
    obtain ⟨rfl, rfl⟩ := hnil rfl
    clear hcell hnil
    go_enter Try.func25, Try.ntmps25
    go_wp2
    go_ret
    exact ⟨_, rfl, .inl ⟨rfl, rfl⟩, Below.refl _ _⟩
  | some p =>
  clear hnil
  have HC : Hid (∀ i, (hi : i < zs.length) → ∃ b off, some p = some ⟨b, off, none⟩ ∧ w.cell? ⟨b, off + i, none⟩ = some (.bool zs[i])) := hcell
  clear hcell
  obtain ⟨H, hH⟩ := size_name w
  have HH : Hid (w.heap.size = H) := hH
  clear hH
  go_enter Try.func25, Try.ntmps25
  go_wp2_with (at_make; refine wpList_mk _ rfl _ _ _ rfl 4 i0 (.bool false) 1 Try.underlying36 hi hz0 hz1 hz2 rfl _ _ _ _ zs.length rfl rfl rfl rfl (by omega) (by unfold maxLen; omega) H HH.out ?_; intro w1 hr hb hsz)
  have HB : Hid (Below H w w1) := hb
  have HR : Hid (Rw w1 H 4 (List.replicate zs.length (.bool false))) := hr
  clear hb hr hsz q23
  go_wp2
  go_loopw [4] (fun i wr => ∃ (k : Nat) (xs : List Bool), k ≤ zs.length ∧ i = .int .i64 k ∧ Hid (Rw wr H 4 (xs.map .bool) ∧ xs.length = zs.length ∧ xs.take k = zs.take k ∧ Below H w wr)) (fun i _ => zs.length - (intOf i).toNat)
  case atStart => exact ⟨0, List.replicate zs.length false, Nat.zero_le _, rfl, by simpa using HR.out, by simp, by simp, HB.out⟩
  case round =>
    obtain ⟨k, xs, hk, rfl, hh⟩ := hrel
    by_cases hlt : k < zs.length
    · obtain ⟨b, off, e0, hc⟩ := HC.out k hlt
      cases e0
      obtain ⟨r1, r2, r3, r4⟩ := hh.out
      have hlt' : b < H := by rw [← HH.out]; exact cell_at hc
      have c1 : wr.cell? ⟨b, off + k, none⟩ = some (.bool zs[k]) := by rw [(bcell r4).1 b (off + k) hlt']; exact hc
      obtain ⟨u2, c2⟩ := r1.there (o := k) (by simp; omega)
      have c3 : wr.frozen? ⟨H, k, none⟩ = false := r1.frozen k
      have HN : Hid (Rw (wr.setCell ⟨H, k, none⟩ (.bool zs[k])) H 4 ((xs.set k zs[k]).map .bool) ∧ (xs.set k zs[k]).length = zs.length ∧ (xs.set k zs[k]).take (k + 1) = zs.take (k + 1) ∧ Below H w (wr.setCell ⟨H, k, none⟩ (.bool zs[k]))) := by
        refine ⟨?_, by simpa using r2, eq_set_of_take' r2 r3 hlt, r4.setCell (Nat.le_refl _) _⟩
        rw [List.map_set]
        exact r1.set k _
      clear r1 r2 r3 r4 hh HC hc HR HB
      go_wp2
      go_roundw
      case rel => exact ⟨k + 1, _, by omega, by go_num, HN⟩
      case measure => simp [intOf]; omega
    · go_wp2
      go_ret
      obtain ⟨r1, r2, r3, r4⟩ := hh.out
      rw [List.take_of_length_le (by omega), List.take_of_length_le (by omega)] at r3
      subst r3
      refine ⟨_, rfl, .inr ⟨H, by rw [HH.out]; exact Nat.le_refl _, rfl, r1⟩, ?_⟩
      rw [HH.out]; exact r4

/-- The sources opened. -/
def openL (n : Nat) (O op : List Bool) (k : Nat) : List Bool := (List.range n).map fun v => decide (v < k) && (op.getD v false && !isOut O v)
theorem openL_len (n : Nat) (O op : List Bool) (k : Nat) : (openL n O op k).length = n := by simp [openL]
theorem openL_zero (n : Nat) (O op : List Bool) : openL n O op 0 = List.replicate n false := by
  apply List.ext_getElem?
  intro j
  simp [openL, List.getElem?_replicate]
  by_cases h : j < n <;> simp [h]
theorem openL_get (n : Nat) (O op : List Bool) (k : Nat) {v : Nat} (hv : v < n) : (openL n O op k)[v]? = some (decide (v < k) && (op.getD v false && !isOut O v)) := by simp [openL, hv]
theorem openL_yes (n : Nat) (O op : List Bool) {k : Nat} (hk : k < n) (h : (op.getD k false && !isOut O k) = true) : (openL n O op k).set k true = openL n O op (k + 1) := by
  apply List.ext_getElem?
  intro j
  by_cases e : k = j
  · subst e
    rw [List.getElem?_set_self (by rw [openL_len]; exact hk), openL_get _ _ _ _ hk, h]
    simp
  · rw [List.getElem?_set_ne e]
    by_cases hj : j < n
    · rw [openL_get _ _ _ _ hj, openL_get _ _ _ _ hj]
      have : decide (j < k) = decide (j < k + 1) := by
        apply decide_eq_decide.2
        omega
      rw [this]
    · simp [openL, hj]
theorem openL_no (n : Nat) (O op : List Bool) {k : Nat} (h : (op.getD k false && !isOut O k) = false) : openL n O op k = openL n O op (k + 1) := by
  apply List.map_congr_left
  intro j _
  by_cases e : j = k
  · subst e; rw [h]; simp
  · have : decide (j < k) = decide (j < k + 1) := by
      apply decide_eq_decide.2
      omega
    rw [this]
theorem openL_end (n : Nat) (O op : List Bool) {k : Nat} (h : n ≤ k ∨ op.length ≤ k) : openL n O op k = openL n O op n := by
  apply List.map_congr_left
  intro j hj
  have hjn := List.mem_range.1 hj
  by_cases hjk : j < k
  · simp [hjk, hjn]
  · rcases h with h | h
    · omega
    · have : op.getD j false = false := by rw [List.getD_eq_getElem?_getD, List.getElem?_eq_none (by omega)]; rfl
      rw [this]; simp
set_option maxHeartbeats 400000 in
theorem openSet_any (n gO : Nat) (O op : List Bool) (v : Value) (w : World) (hO : Rw w gO 4 (O.map .bool)) (hol : O.length = n) (hn : n ≤ 256) (hv : BSl w v op) :
    Calls Try.prog 26 #[.int .i64 n, .slice (some ⟨gO, 0, none⟩) n n, v] w fun e w' => BoolsR w (openL n O op n) e w' := by
  obtain ⟨i0, hi0, hz0, hz1, hz2⟩ := info_parts Try.info4
  obtain ⟨ao, cap, rfl, hm, hnil, hcell⟩ := hv
  unfold maxLen at hm
  clear hnil
  have HC : Hid (∀ i, (hi : i < op.length) → ∃ b off, ao = some ⟨b, off, none⟩ ∧ w.cell? ⟨b, off + i, none⟩ = some (.bool op[i])) := hcell
  have HO : Hid (Rw w gO 4 (O.map .bool)) := hO
  have HOL : Hid (O.length = n) := hol
  clear hcell hO hol
  obtain ⟨H, hH⟩ := size_name w
  have HH : Hid (w.heap.size = H) := hH
  clear hH
  go_enter Try.func26, Try.ntmps26
  go_wp2_with (at_make; refine wpList_mk _ rfl _ _ _ rfl 4 i0 (.bool false) 1 Try.underlying36 hi0 hz0 hz1 hz2 rfl _ _ _ _ n rfl rfl rfl rfl (by omega) (by unfold maxLen; omega) H HH.out ?_; intro w1 hr hb hsz)
  have HI : Hid (Rw w1 H 4 ((openL n O op 0).map .bool) ∧ Below H w w1) := ⟨by rw [openL_zero]; simpa using hr, hb⟩
  clear hb hr hsz
  go_wp2
  go_loopw [8] (fun c wr => ∃ k : Nat, k ≤ n ∧ c = .int .i64 k ∧ Hid (Rw wr H 4 ((openL n O op k).map .bool) ∧ Below H w wr)) (fun c _ => n - (intOf c).toNat)
  case atStart => exact ⟨0, Nat.zero_le _, rfl, HI⟩
  case round =>
    obtain ⟨k, hk, rfl, HR⟩ := hrel
    clear HI
    have HEND : Hid (n ≤ k ∨ op.length ≤ k → BoolsR w (openL n O op n) (.returned (.slice (some ⟨H, 0, none⟩) n n)) wr) := fun h => by
      refine ⟨H, by rw [openL_len], ?_, by rw [HH.out]; exact Nat.le_refl _, by rw [HH.out]; exact HR.out.2⟩
      rw [← openL_end n O op h]; exact HR.out.1
    by_cases hlt : k < n
    · by_cases hlo : k < op.length
      · obtain ⟨b, off, rfl, hc⟩ := HC.out k hlo
        have hbH : b < H := by rw [← HH.out]; exact cell_at hc
        have c1 : wr.cell? ⟨b, off + k, none⟩ = some (.bool op[k]) := by rw [(bcell HR.out.2).1 b (off + k) hbH]; exact hc
        have hgH : gO < H := by rw [← HH.out]; exact HO.out.lt
        have c2 : wr.cell? ⟨gO, k, none⟩ = some (.bool (isOut O k)) := by
          rw [(bcell HR.out.2).1 gO k hgH, HO.out.cell]; simp [isOut, HOL.out, hlt]
        have hgd : op.getD k false = op[k] := by simp [hlo]
        obtain ⟨u3, c3⟩ := HR.out.1.there (o := k) (by rw [List.length_map, openL_len]; exact hlt)
        have c4 : wr.frozen? ⟨H, k, none⟩ = false := HR.out.1.frozen k
        have HY : Hid ((op[k] && !isOut O k) = true → Rw (wr.setCell ⟨H, k, none⟩ (.bool true)) H 4 ((openL n O op (k + 1)).map .bool) ∧ Below H w (wr.setCell ⟨H, k, none⟩ (.bool true))) := fun h => by
          refine ⟨?_, HR.out.2.setCell (p := ⟨H, k, none⟩) (Nat.le_refl _) _⟩
          rw [← openL_yes n O op hlt (by rw [hgd]; exact h), List.map_set]
          exact HR.out.1.set k _
        have HNO : Hid ((op[k] && !isOut O k) = false → Rw wr H 4 ((openL n O op (k + 1)).map .bool) ∧ Below H w wr) := fun h => by
          refine ⟨?_, HR.out.2⟩
          rw [← openL_no n O op (by rw [hgd]; exact h)]
          exact HR.out.1
        clear HR HEND hc hgd
        generalize op[k] = b1 at *
        generalize isOut O k = b2 at *
        cases b1 with
        | false =>
          have HN := HNO.out rfl
          have HN' : Hid (Rw wr H 4 ((openL n O op (k + 1)).map .bool) ∧ Below H w wr) := HN
          clear HN HNO HY
          go_wp2
          go_roundw
          case rel => exact ⟨k + 1, by omega, by go_num, HN'⟩
          case measure => simp [intOf]; omega
        | true =>
          cases b2 with
          | true =>
            have HN' : Hid (Rw wr H 4 ((openL n O op (k + 1)).map .bool) ∧ Below H w wr) := HNO.out rfl
            clear HNO HY
            go_wp2
            go_roundw
            case rel => exact ⟨k + 1, by omega, by go_num, HN'⟩
            case measure => simp [intOf]; omega
          | false =>
            have HY' : Hid (Rw (wr.setCell ⟨H, k, none⟩ (.bool true)) H 4 ((openL n O op (k + 1)).map .bool) ∧ Below H w (wr.setCell ⟨H, k, none⟩ (.bool true))) := HY.out rfl
            clear HNO HY
            go_wp2
            go_roundw
            case rel => exact ⟨k + 1, by omega, by go_num, HY'⟩
            case measure => simp [intOf]; omega
      · have HE := HEND.out (.inr (by omega))
        have HE' : Hid (BoolsR w (openL n O op n) (.returned (.slice (some ⟨H, 0, none⟩) n n)) wr) := HE
        clear HE HEND HR
        go_wp2
        go_ret
        exact HE'.out
    · have HE' : Hid (BoolsR w (openL n O op n) (.returned (.slice (some ⟨H, 0, none⟩) n n)) wr) := HEND.out (.inl (by omega))
      clear HEND HR
      go_wp2
      go_ret
      exact HE'.out

def RoomsR (w : World) (r : Bool) (e : Ending) (w' : World) : Prop := e = .returned (.bool r) ∧ Below w.heap.size w w'
set_option maxHeartbeats 400000 in
theorem sameRooms_any (w : World) (g h : Nat) (zs ys : List Int) (hg : Rw w g 56 (zs.map (.int .i8))) (hh : Rw w h 56 (ys.map (.int .i8))) (hl : ys.length = zs.length) (hm : zs.length ≤ 1000000) :
    Calls Try.prog 29 #[at0 g zs.length, at0 h ys.length] w fun e w' => RoomsR w (decide (zs = ys)) e w' := by
  have HI : Hid (Rw w g 56 (zs.map (.int .i8)) ∧ Rw w h 56 (ys.map (.int .i8)) ∧ Below w.heap.size w w) := ⟨hg, hh, Below.refl _ _⟩
  have HL : Hid (ys.length = zs.length) := hl
  rw [hl]
  clear hg hh hl
  unfold at0
  go_enter Try.func29, Try.ntmps29
  go_wp2
  go_loopw [5] (fun c wr => ∃ k : Nat, k ≤ zs.length ∧ c = .int .i64 k ∧ Hid (zs.take k = ys.take k) ∧ Hid (Rw wr g 56 (zs.map (.int .i8)) ∧ Rw wr h 56 (ys.map (.int .i8)) ∧ Below w.heap.size w wr)) (fun c _ => zs.length - (intOf c).toNat)
  case atStart => exact ⟨0, Nat.zero_le _, rfl, by show _ = _; simp, HI⟩
  case round =>
    obtain ⟨k, hk, rfl, HT, HR⟩ := hrel
    clear HI
    by_cases hlt : k < zs.length
    · have hly : k < ys.length := by rw [HL.out]; exact hlt
      have c1 : wr.cell? ⟨g, k, none⟩ = some (.int .i8 zs[k]) := by rw [HR.out.1.cell]; simp [hlt]
      have c2 : wr.cell? ⟨h, k, none⟩ = some (.int .i8 ys[k]) := by rw [HR.out.2.1.cell]; simp [hly]
      have HR' : Hid (∀ q, Rw (wr.drewN q) g 56 (zs.map (.int .i8)) ∧ Rw (wr.drewN q) h 56 (ys.map (.int .i8)) ∧ Below w.heap.size w (wr.drewN q)) := fun q => ⟨HR.out.1, HR.out.2.1, below_draws HR.out.2.2 q⟩
      by_cases he : zs[k] = ys[k]
      · have HT2 : Hid (zs.take (k + 1) = ys.take (k + 1)) := by
          show _ = _
          rw [List.take_add_one, List.take_add_one, HT.out, List.getElem?_eq_getElem hlt, List.getElem?_eq_getElem hly, he]
        rw [← he] at c2
        generalize zs[k] = z at *
        clear he HT HR
        go_wp2
        go_quiet (fail)
        go_wp2
        go_roundw
        case rel => exact ⟨k + 1, by omega, by go_num, HT2, HR'.out _⟩
        case measure => simp [intOf]; omega
      · have HNE : Hid (∀ q, RoomsR w (decide (zs = ys)) (.returned (.bool false)) (wr.drewN q)) := fun q => ⟨by rw [decide_eq_false (fun e => he (by subst e; rfl))], (HR'.out q).2.2⟩
        generalize zs[k] = z at *
        generalize ys[k] = y at *
        have hb : (z != y) = true := by rw [bne_iff_ne]; exact he
        clear HT HR HR'
        go_wp2
        go_quiet (fail)
        go_wp2
        go_ret
        exact HNE.out _
    · have HE : Hid (RoomsR w (decide (zs = ys)) (.returned (.bool true)) wr) := by
        refine ⟨?_, HR.out.2.2⟩
        have h := HT.out
        rw [List.take_of_length_le (by omega), List.take_of_length_le (by rw [HL.out]; omega)] at h
        rw [decide_eq_true h]
      clear HT HR
      go_wp2
      go_ret
      exact HE.out
end Go.Proofs.Qxb6605292a
