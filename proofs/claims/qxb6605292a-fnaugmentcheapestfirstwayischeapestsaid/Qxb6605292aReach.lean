/-
  finds (f57) and reach (f59).
-/
import Derived.Test.Qxb6605292aGrp
namespace Go.Proofs.Qxb6605292a
open Go.RowKit

/-- finds, where the group has none: two maps and a record are made. -/
theorem finds_new (G n : Nat) (nb : Value) (w : World) (h : Rw w G 83 (grp0 n nb)) :
    Calls Try.prog 57 #[ptr0 G] w fun e w' => e = .returned (ptr0 (w.heap.size + 2)) ∧
      w' = (((w.alloc (.map #[] 0)).alloc (.map #[] 0)).alloc (.cells #[.int .i64 (-1), .int .i64 (-1), .map (some w.heap.size), .map (some (w.heap.size + 1)), .pointer none] 87)).setCell ⟨G, 5, none⟩ (ptr0 (w.heap.size + 2)) := by
  have hlt := h.lt
  have c5 : w.cell? ⟨G, 5, none⟩ = some (.pointer none) := h.at rfl
  have hmm := @run_makeMap Try.prog
  have c5' : ∀ o1 o2 o3, (((w.alloc o1).alloc o2).alloc o3).cell? ⟨G, 5, none⟩ = some (.pointer none) := fun o1 o2 o3 => (((h.alloc o1).alloc o2).alloc o3).at rfl
  have f5' : ∀ o1 o2 o3, (((w.alloc o1).alloc o2).alloc o3).frozen? ⟨G, 5, none⟩ = false := fun o1 o2 o3 => (((h.alloc o1).alloc o2).alloc o3).frozen 5
  clear h
  unfold ptr0
  go_enter Try.func57, Try.ntmps57
  go_wp2
  go_ret
  exact ⟨rfl, rfl⟩
theorem finds_old (G R : Nat) (w : World) (h : w.cell? ⟨G, 5, none⟩ = some (ptr0 R)) :
    Calls Try.prog 57 #[ptr0 G] w fun e w' => e = .returned (ptr0 R) ∧ w' = w := by
  unfold ptr0 at *
  go_enter Try.func57, Try.ntmps57
  go_wp2
  go_ret
  exact ⟨rfl, rfl⟩

/-- The group and its finder, and the links, which lie below the group's block. -/
structure Gs (w : World) (T : Nat → Nat) (s : FV) (lk : Bool) (rows : List (List Int)) : Prop where
  fin : FinAt w T s
  nb : NbAt s.G w s.nb s.n lk rows
  low : ∀ b, b < s.G → T b = 0
theorem Gs.lt {w : World} {T : Nat → Nat} {s : FV} {lk : Bool} {rows : List (List Int)} (h : Gs w T s lk rows) : s.G < w.heap.size :=
  h.fin.own.lt (t := 14) (e := 83) (l := s.gcells) (by simp [FV.A])
theorem Gs.below {M : Nat → Prop} {w w' : World} {T T' : Nat → Nat} {s : FV} {lk : Bool} {rows : List (List Int)} (h : Gs w T s lk rows) (st : Step M w T w' T') (h0 : ¬ M 0) : Below s.G w w' :=
  st.below (Nat.le_of_lt h.lt) (fun i hi => by rw [h.low i hi]; exact h0)
theorem Gs.step {M : Nat → Prop} {w w' : World} {T T' : Nat → Nat} {s s' : FV} {lk : Bool} {rows : List (List Int)} (h : Gs w T s lk rows) (st : Step M w T w' T') (h0 : ¬ M 0) (hf : FinAt w' T' s') (e1 : s'.G = s.G) (e2 : s'.nb = s.nb) (e3 : s'.n = s.n) : Gs w' T' s' lk rows :=
  ⟨hf, by rw [e1, e2, e3]; exact h.nb.later (h.below st h0), fun b hb => by
    rw [e1] at hb
    rw [st.tags b (Nat.lt_trans hb h.lt)]
    exact h.low b hb⟩

/-- A slice that is read, and goes on to be, whatever is done to blocks with other tags than 0 and 16. -/
def RStab (w : World) (T : Nat → Nat) (v : Value) (zs : List Int) : Prop := ∀ (M : Nat → Prop) (w2 : World) (T2 : Nat → Nat), Step M w T w2 T2 → ¬ M 0 → ¬ M 16 → KSl .i64 w2 v zs
theorem RStab.step {M : Nat → Prop} {w w1 : World} {T T1 : Nat → Nat} {v : Value} {zs : List Int} (h : RStab w T v zs) (st : Step M w T w1 T1) (h0 : ¬ M 0) (h16 : ¬ M 16) : RStab w1 T1 v zs :=
  fun M2 w2 T2 st2 a0 a16 => h (fun t => M t ∨ M2 t) w2 T2 ((st.mono (fun _ => .inl)).trans (st2.mono (fun _ => .inr))) (fun hh => hh.elim h0 a0) (fun hh => hh.elim h16 a16)

def reachL (n : Nat) (lk : Bool) (rows : List (List Int)) (k : Nat) : List Int := if lk then rows.getD k [] else upTo n
def FV.withE (s : FV) (h : Bool) (b : Nat) : FV := { s with hasE := h, bE := b }
def reachT (t : Nat) : Prop := t = 14 ∨ t = 16
def ReachR (w : World) (T : Nat → Nat) (s : FV) (lk : Bool) (rows : List (List Int)) (k : Nat) (e : Ending) (w' : World) : Prop :=
  ∃ T' hE bE v, e = .returned v ∧ FinAt w' T' (s.withE hE bE) ∧ Step reachT w T w' T' ∧ RStab w' T' v (reachL s.n lk rows k) ∧ ∃ a n c, v = .slice a n c

theorem upTo_len (n : Nat) : (upTo n).length = n := by simp [upTo]
theorem upTo_get (n k : Nat) (h : k < n) : (upTo n)[k]'(by rw [upTo_len]; exact h) = (k : Int) := by simp [upTo]

/-- What reach's loop holds. -/
def ReInv (w : World) (T : Nat → Nat) (s : FV) (H k : Nat) (wr : World) : Prop :=
  ∃ xs : List Int, xs.length = s.n ∧ xs.take k = (upTo s.n).take k ∧ Own wr (retag T H 16) ((s.withE true H).A.upd 16 (H, 3, xs.map (.int .i64))) (s.withE true H).R ∧ Step reachT w T wr (retag T H 16)
theorem ReInv.step {w wr : World} {T : Nat → Nat} {s : FV} {H k : Nat} (h : ReInv w T s H k wr) (hk : k < s.n) : ReInv w T s H (k + 1) (wr.setCell ⟨H, k, none⟩ (.int .i64 (k : Int))) := by
  obtain ⟨xs, h1, h2, h3, h4⟩ := h
  have e16 : ((s.withE true H).A.upd 16 (H, 3, xs.map (.int .i64))) 16 = some (H, 3, xs.map (.int .i64)) := Lay.upd_same _ _ _
  refine ⟨xs.set k k, by simpa using h1, ?_, ?_, h4.set (by rw [(h3.arr _ _ _ _ e16).1]; exact .inr rfl) _⟩
  · have := eq_set_of_take (zs := upTo s.n) (xs := xs) (k := k) (by rw [upTo_len]; exact h1) h2 (by rw [upTo_len]; exact hk)
    rw [upTo_get s.n k hk] at this
    exact this
  · refine (h3.set e16 (by simp [FV.R]) k (.int .i64 (k : Int))).congr (fun t => ?_) (fun _ => rfl)
    by_cases e : t = 16
    · subst e; rw [Lay.upd_same, Lay.upd_same, List.map_set]
    · rw [Lay.upd_ne _ _ e, Lay.upd_ne _ _ e, Lay.upd_ne _ _ e]
theorem ReInv.done {w wr : World} {T : Nat → Nat} {s : FV} {H k : Nat} (h : ReInv w T s H k wr) (hl : s.Len) (hk : s.n ≤ k) (hn : s.n ≤ maxLen) (rows : List (List Int)) (j : Nat) : ReachR w T s false rows j (.returned (at0 H s.n)) wr := by
  obtain ⟨xs, h1, h2, h3, h4⟩ := h
  have e : xs = upTo s.n := by
    have := h2
    rw [List.take_of_length_le (by omega), List.take_of_length_le (by rw [upTo_len]; exact hk)] at this
    exact this
  subst e
  have e16 : ((s.withE true H).A.upd 16 (H, 3, (upTo s.n).map (.int .i64))) 16 = some (H, 3, (upTo s.n).map (.int .i64)) := Lay.upd_same _ _ _
  refine ⟨retag T H 16, true, H, _, rfl, ⟨h3.congr (fun t => ?_) (fun _ => rfl), ⟨hl.out, hl.nodes, hl.vNodes, hl.source, hl.seen, hl.queued, hl.dist, hl.via⟩⟩, h4, ?_, ⟨_, _, _, rfl⟩⟩
  · by_cases e : t = 16
    · subst e; rw [Lay.upd_same]; simp [FV.A, FV.withE]
    · rw [Lay.upd_ne _ _ e]
  · intro M w2 T2 st _ h16
    obtain ⟨t16, r16⟩ := h3.arr _ _ _ _ e16
    have r := r16.step st (by rw [t16]; exact h16)
    have := r.ksl (by rw [upTo_len]; exact hn) s.n
    rw [upTo_len] at this
    exact this

set_option maxHeartbeats 400000 in
theorem reach_any {w : World} {T : Nat → Nat} {s : FV} {lk : Bool} {rows : List (List Int)} (k : Nat) (h : Gs w T s lk rows) (hk : k < s.n) (hn : s.n ≤ 256) (hss : ∀ r ∈ rows, r.length ≤ 1048576) :
    Calls Try.prog 59 #[ptr0 s.G, .int .i64 k] w fun e w' => ReachR w T s lk rows k e w' := by
  have e14 : s.A 14 = some (s.G, 83, s.gcells) := by simp [FV.A]
  have q61 : ∀ (w : World) (r : Option Nat), (binOp .neq 61 (.map r) (.map none)).run Try.prog w = .ok (.bool (!r.isNone)) w := fun w r => run_neq_map_nil w _ _ _ r Try.underlying61
  have q23 : ∀ (w : World) (a : Option Addr) (n c : Nat), (binOp .eql 23 (.slice a n c) (.slice none 0 0)).run Try.prog w = .ok (.bool a.isNone) w := fun w a n c => Lib.run_eql_slice_nil w _ _ a n c _ _ Try.underlying23
  have c2 : w.cell? ⟨s.G, 2, none⟩ = some s.nb := h.fin.own.at e14 rfl
  have c0 : w.cell? ⟨s.G, 0, none⟩ = some (.int .i64 s.n) := h.fin.own.at e14 rfl
  have c3 : w.cell? ⟨s.G, 3, none⟩ = some s.every := h.fin.own.at e14 rfl
  have f3 : w.frozen? ⟨s.G, 3, none⟩ = false := h.fin.own.frozen e14 3
  have HG : Hid (Gs w T s lk rows) := h
  have hmax : s.n ≤ maxLen := by unfold maxLen; omega
  have HMX : Hid (s.n ≤ maxLen) := hmax
  cases lk with
  | true =>
    obtain ⟨M, vs, hnb, hvl, hst⟩ := h.nb.2 rfl
    rw [hnb] at c2
    have hlook := run_look (hst w (Below.refl _ _)).1 k
    obtain ⟨v, hv⟩ : ∃ v, (vs[k]?).getD (.slice none 0 0) = v := ⟨_, rfl⟩
    rw [hv] at hlook
    have hsl : ∃ a n c, v = .slice a n c := by
      rw [← hv]
      by_cases hkv : k < vs.length
      · have hkr : k < rows.length := by omega
        rcases (hst w (Below.refl _ _)).2 k hkv hkr with ⟨e, _⟩ | ⟨g, _, e, _⟩
        · exact ⟨none, 0, 0, by simp [hkv, e]⟩
        · exact ⟨_, _, _, by simp [hkv, e]; exact ⟨rfl, rfl, rfl⟩⟩
      · exact ⟨none, 0, 0, by simp [hkv]⟩
    have key : Hid (ReachR w T s true rows k (.returned v) w) := by
      refine ⟨T, s.hasE, s.bE, v, rfl, h.fin, Step.refl _ _ _, ?_, hsl⟩
      intro M2 w2 T2 st h0 _
      have hb := h.below st h0
      unfold reachL
      rw [if_pos rfl]
      by_cases hkv : k < vs.length
      · have hkr : k < rows.length := by omega
        have hc := (hst w2 hb).2 k hkv hkr
        have e : vs[k] = v := by rw [← hv]; simp [hkv]
        rw [e] at hc
        have := hc.ksl (by unfold maxLen; have := hss _ (List.getElem_mem hkr); omega)
        simpa [hkr] using this
      · have hkr : ¬ k < rows.length := by omega
        have e : v = .slice none 0 0 := by rw [← hv]; simp [hkv]
        rw [e]
        simpa [hkr] using KSl.nil .i64 w2
    obtain ⟨va, vn, vc, rfl⟩ := hsl
    clear h hst hvl hv hss hmax c0 c3 f3 q23
    unfold ptr0
    go_enter Try.func59, Try.ntmps59
    go_wp2
    go_ret
    exact key.out
  | false =>
    have hnb := h.nb.1 rfl
    rw [hnb] at c2
    cases hE : s.hasE with
    | true =>
      have ev : s.every = at0 s.bE s.n := by unfold FV.every; rw [hE]; rfl
      rw [ev] at c3
      have key : Hid (ReachR w T s false rows k (.returned (at0 s.bE s.n)) w) := by
        refine ⟨T, s.hasE, s.bE, _, rfl, h.fin, Step.refl _ _ _, ?_, ⟨_, _, _, rfl⟩⟩
        intro M2 w2 T2 st _ h16
        have e16 : s.A 16 = some (s.bE, 3, (upTo s.n).map (.int .i64)) := by simp [FV.A, hE]
        obtain ⟨t16, r16⟩ := h.fin.own.arr _ _ _ _ e16
        have r := r16.step st (by rw [t16]; exact h16)
        have := r.ksl (by rw [upTo_len]; exact hmax) s.n
        rw [upTo_len] at this
        exact this
      clear h hss hmax c0 f3 hE ev
      unfold ptr0 at *
      unfold at0 at *
      go_enter Try.func59, Try.ntmps59
      go_wp2
      go_ret
      exact key.out
    | false =>
      have ev : s.every = .slice none 0 0 := by unfold FV.every; rw [hE]; rfl
      rw [ev] at c3
      obtain ⟨i0, hi, hz0, hz1, hz2⟩ := info_parts Try.info3
      obtain ⟨H, hH⟩ := size_name w
      have HH : Hid (w.heap.size = H) := hH
      have hGH : s.G < H := by rw [← hH]; exact h.lt
      have hne : s.G ≠ H := by omega
      have HE : Hid (s.hasE = false) := hE
      clear h hss hmax hH hE ev
      unfold ptr0
      go_enter Try.func59, Try.ntmps59
      go_wp2_with (at_make; refine wpList_mk _ rfl _ _ _ rfl 3 i0 (.int .i64 0) 8 Try.underlying23 hi hz0 hz1 hz2 rfl _ _ _ _ s.n rfl rfl rfl rfl (by omega) HMX.out H HH.out ?_; intro w1 hr hb hsz; have c3' := ((bcell hb).1 s.G 3 hGH).trans c3; have f3' := ((bcell hb).2 s.G 3 hGH).trans f3)
      have HI : Hid (ReInv w T s H 0 (w1.setCell ⟨s.G, 3, none⟩ (.slice (some ⟨H, 0, none⟩) s.n s.n))) := by
        have hb' : Below w.heap.size w w1 := by rw [HH.out]; exact hb
        have hhe : s.hasE = false := HE.out
        have a1 := HG.out.fin.own.addArr (t := 16) hb' hr (by rw [HH.out]; exact Nat.le_refl _) (by simp [FV.A, hhe]) (by simp [FV.R]) (by omega)
        have e14' : (s.A.upd 16 (H, 3, List.replicate s.n (.int .i64 0))) 14 = some (s.G, 83, s.gcells) := by rw [Lay.upd_ne _ _ (by omega)]; exact e14
        have a2 := a1.set e14' (by simp [FV.R]) 3 (.slice (some ⟨H, 0, none⟩) s.n s.n)
        refine ⟨List.replicate s.n 0, by simp, by simp, a2.congr (fun t => ?_) (fun _ => rfl), (Step.add hb' (by rw [HH.out]; exact Nat.le_refl _)).set (by rw [(a1.arr _ _ _ _ e14').1]; exact .inl rfl) _⟩
        by_cases e : t = 16
        · subst e; rw [Lay.upd_same, Lay.upd_ne _ _ (by omega), Lay.upd_same]; simp
        · rw [Lay.upd_ne _ _ e]
          by_cases e' : t = 14
          · subst e'; rw [Lay.upd_same]; simp [FV.A, FV.withE, FV.gcells, FV.every, at0]
          · rw [Lay.upd_ne _ _ e', Lay.upd_ne _ _ e]; simp only [FV.A, if_neg e, if_neg e']; rfl
      clear hb hr hsz c3' f3' q23 q61 c0 c2 c3 f3
      have hlen := HG.out.fin.len
      have HL : Hid s.Len := hlen
      clear hlen
      go_loopw [35] (fun i wr => ∃ j : Nat, j ≤ s.n ∧ i = .int .i64 j ∧ Hid (ReInv w T s H j wr)) (fun i _ => s.n - (intOf i).toNat)
      case atStart => exact ⟨0, Nat.zero_le _, rfl, HI⟩
      case round =>
        obtain ⟨j, hj, rfl, hh⟩ := hrel
        clear HI
        obtain ⟨g3, u, gj, fj⟩ : wr.cell? ⟨s.G, 3, none⟩ = some (.slice (some ⟨H, 0, none⟩) s.n s.n) ∧ ∃ u, (j < s.n → wr.cell? ⟨H, j, none⟩ = some u) ∧ wr.frozen? ⟨H, j, none⟩ = false := by
          obtain ⟨xs, h1, _, h3, _⟩ := hh.out
          have e16 : ((s.withE true H).A.upd 16 (H, 3, xs.map (.int .i64))) 16 = some (H, 3, xs.map (.int .i64)) := Lay.upd_same _ _ _
          have e14' : ((s.withE true H).A.upd 16 (H, 3, xs.map (.int .i64))) 14 = some (s.G, 83, (s.withE true H).gcells) := by rw [Lay.upd_ne _ _ (by omega)]; simp [FV.A, FV.withE]
          refine ⟨h3.at e14' (by simp [FV.gcells, FV.withE, FV.every, at0]), (xs.map (Value.int .i64)).getD j (.int .i64 0), fun hj => h3.at e16 (by simp [h1, hj]), h3.frozen e16 j⟩
        by_cases hlt : j < s.n
        · have gj' := gj hlt
          clear gj
          have HN : Hid (ReInv w T s H (j + 1) (wr.setCell ⟨H, j, none⟩ (.int .i64 (j : Int)))) := hh.out.step hlt
          clear hh
          go_wp2
          go_roundw
          case rel => exact ⟨j + 1, by omega, by go_num, HN⟩
          case measure => simp [intOf]; omega
        · clear gj
          go_wp2
          go_ret
          exact hh.out.done HL.out (by omega) HMX.out rows k
end Go.Proofs.Qxb6605292a
