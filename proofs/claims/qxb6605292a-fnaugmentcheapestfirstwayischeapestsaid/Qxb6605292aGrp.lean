/-
  The group: ZZNewGroup (f42), zzGroup (f16), finds (f57), reach (f59). The map of the links: keys 0, 1, 2 .. in the order in which they were laid.
-/
import Derived.Test.Qxb6605292aFin
import Derived.MapKept
import Derived.ChangeMaps5
namespace Go.Proofs.Qxb6605292a
open Go.RowKit
open Go.ChangeMaps (setBlock heap_setBlock_same heap_setBlock_other)

def mapEs : Nat → List Value → List MapEntry
  | _, [] => []
  | i, v :: vs => ⟨.int .i64 i, v, i⟩ :: mapEs (i + 1) vs
theorem mapEs_append : ∀ (vs : List Value) (i : Nat) (v : Value), mapEs i (vs ++ [v]) = mapEs i vs ++ [⟨.int .i64 ((i + vs.length : Nat) : Int), v, i + vs.length⟩]
  | [], i, v => by simp [mapEs]
  | u :: vs, i, v => by
    have e : i + 1 + vs.length = i + (vs.length + 1) := by omega
    simp [mapEs, mapEs_append vs (i + 1) v, e]
theorem findNow_mapEs : ∀ (vs : List Value) (i j k : Nat), i ≤ k → Instr.findNow (.int .i64) (.int .i64 (k : Int)) (mapEs i vs) j = some ((vs[k - i]?).map fun v => (j + (k - i), v))
  | [], i, j, k, _ => by simp [mapEs, Instr.findNow]
  | u :: vs, i, j, k, h => by
    by_cases e : k = i
    · subst e
      simp [mapEs, Instr.findNow, Instr.sameNow]
    · have e1 : k - i = (k - (i + 1)) + 1 := by omega
      have e2 : ((k : Int) == (i : Int)) = false := by rw [beq_eq_false_iff_ne]; omega
      have e3 : j + 1 + (k - (i + 1)) = j + (k - (i + 1) + 1) := by omega
      simp only [mapEs, Instr.findNow, Instr.sameNow, if_true, e2]
      rw [findNow_mapEs vs (i + 1) (j + 1) k (by omega), e1, e3]
      simp

def MapAt (w : World) (M : Nat) (vs : List Value) : Prop := w.heap[M]? = some (.map (mapEs 0 vs).toArray vs.length)
theorem MapAt.lt {w : World} {M : Nat} {vs : List Value} (h : MapAt w M vs) : M < w.heap.size := by
  rcases Nat.lt_or_ge M w.heap.size with h' | h'
  · exact h'
  · unfold MapAt at h; rw [Array.getElem?_eq_none h'] at h; cases h

theorem run_checkKey_int (w : World) (e : Bool) (k : Int) : (Instr.checkKey e 10000 3 (.int .i64 k)).run Try.prog w = .ok () w := by
  exact MapKept.run_checkKey Try.underlying3 (by trivial) e 9999
theorem run_findKey_at (w : World) (vs : List Value) (k : Nat) : (Instr.findKey 3 (.int .i64 (k : Int)) (mapEs 0 vs)).run Try.prog w = .ok ((vs[k]?).map fun v => (k, v)) w := by
  have := findNow_mapEs vs 0 0 k (Nat.zero_le _)
  simp at this
  exact MapKept.run_findKey Try.underlying3 this

theorem run_put {w : World} {M : Nat} {vs : List Value} (h : MapAt w M vs) (v : Value) :
    (Instr.mapUpdate 61 (.map (some M)) (.int .i64 (vs.length : Int)) v).run Try.prog w = .ok () (setBlock w M (.map (mapEs 0 (vs ++ [v])).toArray (vs.length + 1))) := by
  have hf := run_findKey_at w vs vs.length
  simp at hf
  simp [Instr.mapUpdate, run_underlying Try.underlying61, MapKept.run_getObj_map h, run_checkKey_int, hf, MapKept.run_setObj_map _ h, Result.andThen, setBlock, mapEs_append]
theorem run_look {w : World} {M : Nat} {vs : List Value} (h : MapAt w M vs) (k : Nat) :
    (Instr.lookup 61 (.map (some M)) (.int .i64 (k : Int)) false).run Try.prog w = .ok ((vs[k]?).getD (.slice none 0 0)) w := by
  have hf := run_findKey_at w vs k
  obtain ⟨i0, hi, hz0, hz1, hz2⟩ := info_parts Try.info23
  have hz : (zeroValue 23).run Try.prog w = .ok (.slice none 0 0) w := by simp [zeroValue, typeInfo, hi, hz0, Result.andThen]
  cases hv : vs[k]? with
  | none => rw [hv] at hf; simp [Instr.lookup, run_underlying Try.underlying61, MapKept.run_getObj_map h, run_checkKey_int, hf, hz, Result.andThen]
  | some v => rw [hv] at hf; simp [Instr.lookup, run_underlying Try.underlying61, MapKept.run_getObj_map h, run_checkKey_int, hf, Result.andThen]

theorem MapAt.put {w : World} {M : Nat} {vs : List Value} (h : MapAt w M vs) (v : Value) : MapAt (setBlock w M (.map (mapEs 0 (vs ++ [v])).toArray (vs.length + 1))) M (vs ++ [v]) := by
  have := heap_setBlock_same h (.map (mapEs 0 (vs ++ [v])).toArray (vs.length + 1))
  unfold MapAt
  rw [this]
  simp
theorem kept_setBlock {w : World} {M : Nat} {vs : List Value} (h : MapAt w M vs) (o : Obj) : Kept (fun b => b = M) w (setBlock w M o) :=
  ⟨rfl, rfl, rfl, by simp [setBlock], fun _ _ hn => heap_setBlock_other h o hn⟩

theorem MapAt.below {B : Nat} {w w' : World} {M : Nat} {vs : List Value} (h : MapAt w M vs) (hb : Below B w w') (hlt : M < B) : MapAt w' M vs := by
  unfold MapAt at *; rw [hb.block M hlt]; exact h

/-- The links as the group holds them, in every world that is as w was below block G. -/
def NbAt (G : Nat) (w : World) (nb : Value) (n : Nat) (lk : Bool) (rows : List (List Int)) : Prop :=
  (lk = false → nb = .map none) ∧
    (lk = true → ∃ M vs, nb = .map (some M) ∧ vs.length = min n rows.length ∧ ∀ w1, Below G w w1 → MapAt w1 M vs ∧ ∀ j, (h1 : j < vs.length) → (h2 : j < rows.length) → CSl .i64 3 0 w1 vs[j] rows[j])
theorem NbAt.later {G : Nat} {w w' : World} {nb : Value} {n : Nat} {lk : Bool} {rows : List (List Int)} (h : NbAt G w nb n lk rows) (hb : Below G w w') : NbAt G w' nb n lk rows :=
  ⟨h.1, fun e => let ⟨M, vs, h1, h2, h3⟩ := h.2 e; ⟨M, vs, h1, h2, fun w1 hb1 => h3 w1 (hb.trans hb1)⟩⟩

def grp0 (n : Nat) (nb : Value) : List Value := [.int .i64 n, .int .i64 0, nb, .slice none 0 0, .int .i64 0, .pointer none]
theorem newGroup_any (n : Int) (r : Option Nat) (w : World) :
    Calls Try.prog 42 #[.int .i64 n, .map r] w fun e w' => e = .returned (.pointer (some ⟨w.heap.size, 0, none⟩)) ∧ w' = w.alloc (.cells #[.int .i64 n, .int .i64 0, .map r, .slice none 0 0, .int .i64 0, .pointer none] 83) := by
  go_enter Try.func42, Try.ntmps42
  go_wp2
  go_ret
  exact ⟨rfl, rfl⟩

/-- What zzGroup leaves. -/
def GrpR (w : World) (n : Nat) (lk : Bool) (rows : List (List Int)) (e : Ending) (w' : World) : Prop :=
  ∃ G nb, e = .returned (ptr0 G) ∧ Rw w' G 83 (grp0 n nb) ∧ w.heap.size ≤ G ∧ NbAt G w' nb n lk rows ∧ Below w.heap.size w w' ∧ w'.heap.size = G + 1

/-- What zzGroup's loop holds. -/
def GrInv (w : World) (M : Nat) (rows : List (List Int)) (k : Nat) (wr : World) : Prop :=
  ∃ vs, MapAt wr M vs ∧ vs.length = k ∧ Below M w wr ∧ ∀ j, (h1 : j < vs.length) → (h2 : j < rows.length) → CSl .i64 3 (M + 1) wr vs[j] rows[j]
theorem GrInv.step {w wr w2 : World} {M k : Nat} {rows : List (List Int)} {v : Value} {es : Array MapEntry} (h : GrInv w M rows k wr) (hk : k < rows.length) (hb : Below wr.heap.size wr w2) (hv : CSl .i64 3 wr.heap.size w2 v rows[k])
    (he : ∀ vs, MapAt w2 M vs → vs.length = k → es = (mapEs 0 (vs ++ [v])).toArray) : GrInv w M rows (k + 1) (setBlock w2 M (.map es (k + 1))) := by
  obtain ⟨vs, h1, h2, h3, h4⟩ := h
  have hlt := h1.lt
  have h1' := h1.below hb hlt
  have hset := kept_setBlock h1' (.map es (k + 1))
  have e := he vs h1' h2
  subst e h2
  refine ⟨vs ++ [v], h1'.put v, by simp, (h3.trans (hb.mono (by omega))).trans (hset.below (by have := hb.size; omega) (fun i hi => by omega)), fun j a1 a2 => ?_⟩
  by_cases e : j < vs.length
  · rw [List.getElem_append_left e]
    exact ((h4 j e a2).later hb).kept hset (fun b hb => by omega)
  · have : j = vs.length := by simp at a1; omega
    subst this
    rw [List.getElem_append_right (by omega)]
    simp only [Nat.sub_self, List.getElem_cons_zero]
    exact (hv.lower (by omega)).kept hset (fun b hb => by omega)

theorem GrInv.done {w wr : World} {M k n : Nat} {rows : List (List Int)} (h : GrInv w M rows k wr) (hM : w.heap.size = M) (hk : k = min n rows.length) (e : Ending) (w' : World)
    (he : e = .returned (.pointer (some ⟨wr.heap.size, 0, none⟩))) (hw : w' = wr.alloc (.cells #[.int .i64 n, .int .i64 0, .map (some M), .slice none 0 0, .int .i64 0, .pointer none] 83)) : GrpR w n true rows e w' := by
  subst hw
  obtain ⟨vs, h1, h2, h3, h4⟩ := h
  have hbl : Below wr.heap.size wr (wr.alloc (.cells #[.int .i64 n, .int .i64 0, .map (some M), .slice none 0 0, .int .i64 0, .pointer none] 83)) := below_laid _ _
  refine ⟨wr.heap.size, .map (some M), he, Rw.new wr 83 _, by rw [hM]; exact Nat.le_of_lt h1.lt, ⟨fun h => (by cases h), fun _ => ?_⟩, ?_, by simp⟩
  · exact ⟨M, vs, rfl, by rw [h2, hk], fun w1 hb => ⟨h1.below (hbl.trans hb) h1.lt, fun j a1 a2 => ((h4 j a1 a2).later (hbl.trans hb)).lower (Nat.zero_le _)⟩⟩
  · rw [hM]; exact h3.trans (hbl.mono (Nat.le_of_lt h1.lt))

set_option maxHeartbeats 400000 in
theorem group_any (n : Nat) (lk : Bool) (v : Value) (rows : List (List Int)) (w : World) (hv : RSl w v rows) (hn : n ≤ 256) (hss : ∀ r ∈ rows, r.length ≤ 1048576) :
    Calls Try.prog 16 #[.int .i64 n, .bool lk, v] w fun e w' => GrpR w n lk rows e w' := by
  obtain ⟨ao, cap, rfl, hm, hnil, hcell⟩ := hv
  unfold maxLen at hm
  clear hnil
  cases lk with
  | false =>
    clear hcell hss
    go_enter Try.func16, Try.ntmps16
    go_wp2_with (go_at_call 42; refine (newGroup_any _ _ _).mono ?_; rintro e w' ⟨rfl, rfl⟩)
    go_ret
    refine ⟨w.heap.size, .map none, rfl, Rw.new w 83 _, Nat.le_refl _, ⟨fun _ => rfl, fun h => by cases h⟩, below_laid _ _, by simp⟩
  | true =>
  have HC : Hid (∀ i, (hi : i < rows.length) → ∃ b off rv, ao = some ⟨b, off, none⟩ ∧ w.cell? ⟨b, off + i, none⟩ = some rv ∧ KSl .i64 w rv rows[i]) := hcell
  clear hcell
  have HS : Hid (∀ r ∈ rows, r.length ≤ 1048576) := hss
  clear hss
  obtain ⟨M, hM⟩ := size_name w
  have HM : Hid (w.heap.size = M) := hM
  have hmm : ∀ w1 : World, w1.heap.size = M → (Instr.makeMap 61 none).run Try.prog w1 = .ok (.map (some M)) (w1.alloc (.map #[] 0)) := fun w1 h => by rw [run_makeMap, h]
  have hmm1 := hmm w hM
  clear hmm hM
  have HI : Hid (GrInv w M rows 0 (w.alloc (.map #[] 0))) := by
    refine ⟨[], ?_, rfl, (Below.refl _ _).alloc (by rw [HM.out]; exact Nat.le_refl _) _, fun j h => by simp at h⟩
    unfold MapAt
    rw [← HM.out]
    exact heap_alloc_new w _
  go_enter Try.func16, Try.ntmps16
  go_wp2
  clear hmm1
  go_loopw [8] (fun i wr => ∃ k : Nat, k ≤ rows.length ∧ k ≤ n ∧ i = .int .i64 k ∧ Hid (GrInv w M rows k wr)) (fun i _ => rows.length - (intOf i).toNat)
  case atStart => exact ⟨0, Nat.zero_le _, Nat.zero_le _, rfl, HI⟩
  case round =>
    obtain ⟨k, hk, hkn, rfl, hh⟩ := hrel
    clear HI
    by_cases hlt : k < rows.length
    · by_cases hltn : k < n
      · obtain ⟨b, off, rv, rfl, hc, hrv⟩ := HC.out k hlt
        clear HC
        have hr4 : Below M w wr := by obtain ⟨_, _, _, h, _⟩ := hh.out; exact h
        have hlt' : b < M := by rw [← HM.out]; exact cell_at hc
        have c1 : wr.cell? ⟨b, off + k, none⟩ = some rv := by rw [(bcell hr4).1 b (off + k) hlt']; exact hc
        have HV : Hid (KSl .i64 wr rv rows[k]) := hrv.later (by rw [HM.out]; exact hr4)
        clear hr4 hc hrv hlt'
        go_wp2_with fail
        refine (cloneInts_any rv rows[k] _ HV.out (HS.out _ (List.getElem_mem hlt))).mono ?_
        rintro e w2 ⟨v', rfl, hv', hb'⟩
        obtain ⟨es, hrun, HN⟩ : ∃ es : Array MapEntry, (Instr.mapUpdate 61 (.map (some M)) (.int .i64 (k : Int)) v').run Try.prog w2 = .ok () (setBlock w2 M (.map es (k + 1))) ∧ Hid (GrInv w M rows (k + 1) (setBlock w2 M (.map es (k + 1)))) := by
          have hg := hh.out
          obtain ⟨vs, h1, h2, _⟩ := hh.out
          have h1' := h1.below hb' h1.lt
          refine ⟨(mapEs 0 (vs ++ [v'])).toArray, by rw [← h2]; exact run_put h1' v', hg.step hlt hb' hv' (fun vs' hvs' hl => ?_)⟩
          have : mapEs 0 vs' = mapEs 0 vs := by
            unfold MapAt at hvs' h1'
            rw [h1'] at hvs'
            simp at hvs'
            exact hvs'.1.symm
          have h0 : ∀ vs : List Value, (mapEs 0 vs).map MapEntry.val = vs := by
            have : ∀ (vs : List Value) (i : Nat), (mapEs i vs).map MapEntry.val = vs := by
              intro vs
              induction vs with
              | nil => intro i; rfl
              | cons v vs ih => intro i; simp [mapEs, ih]
            exact fun vs => this vs 0
          rw [← h0 vs', this, h0 vs]
        clear hv' hb' hh HV c1
        go_wp2
        go_roundw
        case rel => exact ⟨k + 1, by omega, by omega, by go_num, HN⟩
        case measure => simp [intOf]; omega
      · go_wp2_with (go_at_call 42; refine (newGroup_any _ _ _).mono ?_; rintro e w' ⟨rfl, rfl⟩)
        go_ret
        exact hh.out.done HM.out (by omega) _ _ rfl rfl
    · by_cases hltn : k < n
      · go_wp2_with (go_at_call 42; refine (newGroup_any _ _ _).mono ?_; rintro e w' ⟨rfl, rfl⟩)
        go_ret
        exact hh.out.done HM.out (by omega) _ _ rfl rfl
      · go_wp2_with (go_at_call 42; refine (newGroup_any _ _ _).mono ?_; rintro e w' ⟨rfl, rfl⟩)
        go_ret
        exact hh.out.done HM.out (by omega) _ _ rfl rfl
end Go.Proofs.Qxb6605292a
