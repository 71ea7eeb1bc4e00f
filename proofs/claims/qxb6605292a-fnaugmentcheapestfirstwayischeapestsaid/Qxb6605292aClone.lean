/-
  The copies: zzCloneInts (f14), zzCloneLinks (f13), zzCloneBools (f25).
-/
import Derived.Test.Qxb6605292aArgs
namespace Go.Proofs.Qxb6605292a
open Go.RowKit

theorem Try.info3 : (Try.prog.info? 3).map (fun i => (i.zero, i.size, i.bytes)) = some (some (.int .i64 0), 1, 8) := by kernel_rfl
theorem Try.info23 : (Try.prog.info? 23).map (fun i => (i.zero, i.size, i.bytes)) = some (some (.slice none 0 0), 1, 24) := by kernel_rfl
theorem Try.info4 : (Try.prog.info? 4).map (fun i => (i.zero, i.size, i.bytes)) = some (some (.bool false), 1, 1) := by kernel_rfl

/-- A readable copy of zs in new memory is handed back. -/
def CloneR (k : IntKind) (w : World) (zs : List Int) (e : Ending) (w' : World) : Prop := ∃ v, e = .returned v ∧ CSl k 3 w.heap.size w' v zs ∧ Below w.heap.size w w'

theorem eq_set_of_take {zs xs : List Int} {k : Nat} (hl : xs.length = zs.length) (h : xs.take k = zs.take k) (hk : k < zs.length) : (xs.set k zs[k]).take (k + 1) = zs.take (k + 1) := by
  apply List.ext_getElem?
  intro j
  have hj := congrArg (fun l => l[j]?) h
  simp only [List.getElem?_take] at hj ⊢
  by_cases h1 : j < k
  · rw [if_pos h1, if_pos h1] at hj
    rw [if_pos (by omega), if_pos (by omega), List.getElem?_set_ne (by omega), hj]
  · by_cases h2 : j = k
    · subst h2
      rw [if_pos (by omega), if_pos (by omega), List.getElem?_set_self (by omega)]
      simp [hk]
    · rw [if_neg (by omega), if_neg (by omega)]

set_option maxHeartbeats 400000 in
theorem cloneInts_any (v : Value) (zs : List Int) (w : World) (hv : KSl .i64 w v zs) (hs : zs.length ≤ 1048576) :
    Calls Try.prog 14 #[v] w fun e w' => CloneR .i64 w zs e w' := by
  obtain ⟨i0, hi, hz0, hz1, hz2⟩ := info_parts Try.info3
  obtain ⟨ao, cap, rfl, hm, hnil, hcell⟩ := hv
  unfold maxLen at hm
  have q23 : ∀ (w : World) (a : Option Addr) (n c : Nat), (binOp .eql 23 (.slice a n c) (.slice none 0 0)).run Try.prog w = .ok (.bool a.isNone) w := fun w a n c => Lib.run_eql_slice_nil w _ _ a n c _ _ Try.underlying23
  cases ao with
  | none =>
    obtain ⟨rfl, rfl⟩ := hnil rfl
    clear hcell hnil
    go_enter Try.func14, Try.ntmps14
    go_wp2
    go_ret
    exact ⟨_, rfl, .inl ⟨rfl, rfl⟩, Below.refl _ _⟩
  | some p =>
  clear hnil
  have HC : Hid (∀ i, (hi : i < zs.length) → ∃ b off, some p = some ⟨b, off, none⟩ ∧ w.cell? ⟨b, off + i, none⟩ = some (.int .i64 zs[i])) := hcell
  clear hcell
  obtain ⟨H, hH⟩ := size_name w
  have HH : Hid (w.heap.size = H) := hH
  clear hH
  go_enter Try.func14, Try.ntmps14
  go_wp2_with (at_make; refine wpList_mk _ rfl _ _ _ rfl 3 i0 (.int .i64 0) 8 Try.underlying23 hi hz0 hz1 hz2 rfl _ _ _ _ zs.length rfl rfl rfl rfl (by omega) (by unfold maxLen; omega) H HH.out ?_; intro w1 hr hb hsz)
  have HB : Hid (Below H w w1) := hb
  have HR : Hid (Rw w1 H 3 (List.replicate zs.length (.int .i64 0))) := hr
  clear hb hr hsz q23
  go_wp2
  go_loopw [4] (fun i wr => ∃ (k : Nat) (xs : List Int), k ≤ zs.length ∧ i = .int .i64 k ∧ Hid (Rw wr H 3 (xs.map (.int .i64)) ∧ xs.length = zs.length ∧ xs.take k = zs.take k ∧ Below H w wr)) (fun i _ => zs.length - (intOf i).toNat)
  case atStart => exact ⟨0, List.replicate zs.length 0, Nat.zero_le _, rfl, by simpa using HR.out, by simp, by simp, HB.out⟩
  case round =>
    obtain ⟨k, xs, hk, rfl, hh⟩ := hrel
    by_cases hlt : k < zs.length
    · obtain ⟨b, off, e0, hc⟩ := HC.out k hlt
      cases e0
      obtain ⟨r1, r2, r3, r4⟩ := hh.out
      have hlt' : b < H := by rw [← HH.out]; exact cell_at hc
      have c1 : wr.cell? ⟨b, off + k, none⟩ = some (.int .i64 zs[k]) := by rw [(bcell r4).1 b (off + k) hlt']; exact hc
      obtain ⟨u2, c2⟩ := r1.there (o := k) (by simp; omega)
      have c3 : wr.frozen? ⟨H, k, none⟩ = false := r1.frozen k
      have HN : Hid (Rw (wr.setCell ⟨H, k, none⟩ (.int .i64 zs[k])) H 3 ((xs.set k zs[k]).map (.int .i64)) ∧ (xs.set k zs[k]).length = zs.length ∧ (xs.set k zs[k]).take (k + 1) = zs.take (k + 1) ∧ Below H w (wr.setCell ⟨H, k, none⟩ (.int .i64 zs[k]))) := by
        refine ⟨?_, by simpa using r2, eq_set_of_take r2 r3 hlt, r4.setCell (Nat.le_refl _) _⟩
        rw [List.map_set]
        exact r1.set k _
      clear r1 r2 r3 r4 hh HC hc HR HB
      go_wp2
      go_roundw
      case rel => exact ⟨k + 1, _, by omega, by go_num, HN⟩
      case measure => simp [intOf]; omega
    · go_wp2
      go_ret
      obtain ⟨r1, r2, r3, r4⟩ := hh.out
      rw [List.take_of_length_le (by omega), List.take_of_length_le (by omega)] at r3
      subst r3
      refine ⟨_, rfl, .inr ⟨H, by rw [HH.out]; exact Nat.le_refl _, rfl, r1⟩, ?_⟩
      rw [HH.out]; exact r4

/-- A copy of the rows in new memory is handed back: nil, or a block of copies. -/
def CRows (lo : Nat) (w : World) (v : Value) (rows : List (List Int)) : Prop :=
  (v = .slice none 0 0 ∧ rows = []) ∨ ∃ g vs, lo ≤ g ∧ v = .slice (some ⟨g, 0, none⟩) rows.length rows.length ∧ Rw w g 23 vs ∧ vs.length = rows.length ∧
    ∀ j, (h1 : j < vs.length) → (h2 : j < rows.length) → CSl .i64 3 lo w vs[j] rows[j]
theorem CRows.rsl {lo : Nat} {w : World} {v : Value} {rows : List (List Int)} (h : CRows lo w v rows) (hm : rows.length ≤ maxLen) (hs : ∀ r ∈ rows, r.length ≤ maxLen) : RSl w v rows := by
  rcases h with ⟨rfl, rfl⟩ | ⟨g, vs, _, rfl, hr, hl, hx⟩
  · exact RSl.nil _
  · exact ⟨_, _, rfl, hm, (fun h => by cases h), fun i hi => ⟨g, 0, vs[i], rfl, by rw [Nat.zero_add]; exact hr.at (by simp [hl, hi]), (hx i (by omega) hi).ksl (hs _ (List.getElem_mem hi))⟩⟩
theorem CRows.later {lo : Nat} {w w' : World} {v : Value} {rows : List (List Int)} (h : CRows lo w v rows) (hb : Below w.heap.size w w') : CRows lo w' v rows := by
  rcases h with h | ⟨g, vs, h1, h2, hr, hl, hx⟩
  · exact .inl h
  · exact .inr ⟨g, vs, h1, h2, hr.below hb hr.lt, hl, fun j a b => (hx j a b).later hb⟩

def CloneRowsR (w : World) (rows : List (List Int)) (e : Ending) (w' : World) : Prop := ∃ v, e = .returned v ∧ CRows w.heap.size w' v rows ∧ Below w.heap.size w w'

/-- What zzCloneLinks's loop holds. -/
def ClInv (w : World) (H : Nat) (rows : List (List Int)) (k : Nat) (wr : World) : Prop :=
  ∃ vs, Rw wr H 23 vs ∧ vs.length = rows.length ∧ Below H w wr ∧ ∀ j, j < k → (h1 : j < vs.length) → (h2 : j < rows.length) → CSl .i64 3 (H + 1) wr vs[j] rows[j]

theorem ClInv.step {w : World} {H : Nat} {rows : List (List Int)} {k : Nat} {wr w2 : World} {v : Value} (h : ClInv w H rows k wr) (hk : k < rows.length) (hb : Below wr.heap.size wr w2) (hv : CSl .i64 3 wr.heap.size w2 v rows[k]) :
    ClInv w H rows (k + 1) (w2.setCell ⟨H, k, none⟩ v) := by
  obtain ⟨vs, h1, h2, h3, h4⟩ := h
  have hlt := h1.lt
  have hset : Kept (fun b => b = H) w2 (w2.setCell ⟨H, k, none⟩ v) := (Kept.refl (fun b => b = H) w2).setCell (p := ⟨H, k, none⟩) (fun _ => rfl) v
  refine ⟨vs.set k v, (h1.below hb hlt).set k v, by simpa using h2, (h3.trans (hb.mono (by omega))).setCell (Nat.le_refl _) _, fun j hj a1 a2 => ?_⟩
  by_cases e : j = k
  · subst e
    rw [List.getElem_set_self]
    exact (hv.lower (by omega)).kept hset (fun b hb => by omega)
  · rw [List.getElem_set_ne (by omega)]
    exact ((h4 j (by omega) (by omega) a2).later hb).kept hset (fun b hb => by omega)

set_option maxHeartbeats 400000 in
theorem cloneLinks_any (v : Value) (rows : List (List Int)) (w : World) (hv : RSl w v rows) (hs : rows.length ≤ 1048576) (hss : ∀ r ∈ rows, r.length ≤ 1048576) :
    Calls Try.prog 13 #[v] w fun e w' => CloneRowsR w rows e w' := by
  obtain ⟨i0, hi, hz0, hz1, hz2⟩ := info_parts Try.info23
  obtain ⟨ao, cap, rfl, hm, hnil, hcell⟩ := hv
  unfold maxLen at hm
  have q22 : ∀ (w : World) (a : Option Addr) (n c : Nat), (binOp .eql 22 (.slice a n c) (.slice none 0 0)).run Try.prog w = .ok (.bool a.isNone) w := fun w a n c => Lib.run_eql_slice_nil w _ _ a n c _ _ Try.underlying22
  cases ao with
  | none =>
    obtain ⟨rfl, rfl⟩ := hnil rfl
    clear hcell hnil hss
    go_enter Try.func13, Try.ntmps13
    go_wp2
    go_ret
    exact ⟨_, rfl, .inl ⟨rfl, rfl⟩, Below.refl _ _⟩
  | some p =>
  clear hnil
  have HC : Hid (∀ i, (hi : i < rows.length) → ∃ b off rv, some p = some ⟨b, off, none⟩ ∧ w.cell? ⟨b, off + i, none⟩ = some rv ∧ KSl .i64 w rv rows[i]) := hcell
  clear hcell
  have HS : Hid (∀ r ∈ rows, r.length ≤ 1048576) := hss
  clear hss
  obtain ⟨H, hH⟩ := size_name w
  have HH : Hid (w.heap.size = H) := hH
  clear hH
  go_enter Try.func13, Try.ntmps13
  go_wp2_with (at_make; refine wpList_mk _ rfl _ _ _ rfl 23 i0 (.slice none 0 0) 24 Try.underlying22 hi hz0 hz1 hz2 rfl _ _ _ _ rows.length rfl rfl rfl rfl (by omega) (by unfold maxLen; omega) H HH.out ?_; intro w1 hr hb hsz)
  have HI : Hid (ClInv w H rows 0 w1) := ⟨_, hr, by simp, hb, fun j hj => absurd hj (Nat.not_lt_zero _)⟩
  clear hb hr hsz q22
  go_wp2
  go_loopw [4] (fun i wr => ∃ (k : Nat), k ≤ rows.length ∧ i = .int .i64 k ∧ Hid (ClInv w H rows k wr)) (fun i _ => rows.length - (intOf i).toNat)
  case atStart => exact ⟨0, Nat.zero_le _, rfl, HI⟩
  case round =>
    obtain ⟨k, hk, rfl, hh⟩ := hrel
    clear HI
    by_cases hlt : k < rows.length
    · obtain ⟨b, off, rv, e0, hc, hrv⟩ := HC.out k hlt
      cases e0
      clear HC
      have hr4 : Below H w wr := by obtain ⟨_, _, _, h, _⟩ := hh.out; exact h
      have hlt' : b < H := by rw [← HH.out]; exact cell_at hc
      have c1 : wr.cell? ⟨b, off + k, none⟩ = some rv := by rw [(bcell hr4).1 b (off + k) hlt']; exact hc
      have HV : Hid (KSl .i64 wr rv rows[k]) := hrv.later (by rw [HH.out]; exact hr4)
      clear hr4 hc hrv hlt'
      go_wp2_with fail
      refine (cloneInts_any rv rows[k] _ HV.out (HS.out _ (List.getElem_mem hlt))).mono ?_
      rintro e w2 ⟨v', rfl, hv', hb'⟩
      obtain ⟨u2, c2, c3⟩ : ∃ u, w2.cell? ⟨H, k, none⟩ = some u ∧ w2.frozen? ⟨H, k, none⟩ = false := by
        obtain ⟨vs, h1, h2, _⟩ := hh.out
        have h5 := h1.below hb' h1.lt
        obtain ⟨u, hu⟩ := h5.there (o := k) (by omega)
        exact ⟨u, hu, h5.frozen k⟩
      have HN : Hid (ClInv w H rows (k + 1) (w2.setCell ⟨H, k, none⟩ v')) := hh.out.step hlt hb' hv'
      have HO : v'.oneCell' = true := by rcases hv' with ⟨rfl, _⟩ | ⟨g, _, rfl, _⟩ <;> rfl
      obtain ⟨va, vn, vc, rfl⟩ : ∃ a n c, v' = .slice a n c := by rcases hv' with ⟨rfl, _⟩ | ⟨g, _, rfl, _⟩ <;> exact ⟨_, _, _, rfl⟩
      clear hv' hb' hh HV c1 HO
      go_wp2
      go_roundw
      case rel => exact ⟨k + 1, by omega, by go_num, HN⟩
      case measure => simp [intOf]; omega
    · go_wp2
      go_ret
      obtain ⟨vs, h1, h2, h3, h4⟩ := hh.out
      refine ⟨_, rfl, .inr ⟨H, vs, by rw [HH.out]; exact Nat.le_refl _, rfl, h1, h2, fun j a1 a2 => (h4 j (by omega) a1 a2).lower (by rw [HH.out]; omega)⟩, ?_⟩
      rw [HH.out]; exact h3
end Go.Proofs.Qxb6605292a
