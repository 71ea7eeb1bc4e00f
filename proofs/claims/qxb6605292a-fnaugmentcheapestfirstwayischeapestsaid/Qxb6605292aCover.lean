/-
  zzTouchedCovers (f33).
-/
import Derived.Test.Qxb6605292aRead
namespace Go.Proofs.Qxb6605292a
open Go.RowKit

/-- Places marked true. -/
def marks (m : Nat) (ts : List Int) : List Bool := ts.foldl (fun l k => l.set k.toNat true) (List.replicate m false)
theorem marks_len (m : Nat) (ts : List Int) : (marks m ts).length = m := by
  have h : ∀ (ts : List Int) (l : List Bool), (ts.foldl (fun l k => l.set k.toNat true) l).length = l.length := by
    intro ts
    induction ts with
    | nil => intro l; rfl
    | cons t ts ih => intro l; rw [List.foldl_cons, ih, List.length_set]
  unfold marks
  rw [h, List.length_replicate]
theorem marks_snoc (m : Nat) (ts : List Int) (t : Int) : marks m (ts ++ [t]) = (marks m ts).set t.toNat true := by simp [marks]
theorem marks_in (m : Nat) (ts : List Int) {a : Nat} (ha : a < m) (h : (a : Int) ∈ ts) : (marks m ts)[a]? = some true := by
  have key : ∀ (ts : List Int) (l : List Bool), l.length = m → (l[a]? = some true ∨ (a : Int) ∈ ts) → (ts.foldl (fun l k => l.set k.toNat true) l)[a]? = some true := by
    intro ts
    induction ts with
    | nil =>
      intro l _ h
      rcases h with h | h
      · exact h
      · cases h
    | cons t ts ih =>
      intro l hl h
      rw [List.foldl_cons]
      refine ih _ (by rw [List.length_set]; exact hl) ?_
      by_cases e : t.toNat = a
      · subst e
        exact .inl (by rw [List.getElem?_set_self (by omega)])
      · rcases h with h | h
        · exact .inl (by rw [List.getElem?_set_ne e]; exact h)
        · rcases List.mem_cons.1 h with h | h
          · omega
          · exact .inr h
  exact key ts _ (by simp) (.inr h)
theorem marks_get (m : Nat) (ts : List Int) {a : Nat} (ha : a < m) : ∃ b, (marks m ts)[a]? = some b := ⟨_, List.getElem?_eq_getElem (by rw [marks_len]; exact ha)⟩
def CovR (w : World) (e : Ending) (w' : World) : Prop := e = .returned (.bool true) ∧ Below w.heap.size w w'
/-- What the walk holds. -/
structure VI (w : World) (T : Nat → Nat) (s : FV) (g h : Nat) (zs ys : List Int) (H : Nat) (bs : List Bool) (wr : World) : Prop where
  b : Below H w wr
  f : FinAt wr T s
  r1 : Rw wr g 56 (zs.map (.int .i8))
  r2 : Rw wr h 56 (ys.map (.int .i8))
  m : Rw wr H 4 (bs.map .bool)

set_option maxRecDepth 100000 in
set_option maxHeartbeats 1600000 in
theorem covers_any {w : World} {T : Nat → Nat} {s : FV} (hf : FinAt w T s) (g h : Nat) (zs ys : List Int) (hg : Rw w g 56 (zs.map (.int .i8))) (hh : Rw w h 56 (ys.map (.int .i8))) (hl : ys.length = zs.length) (hm : zs.length ≤ 1000000)
    (htl : s.touched.length ≤ 1000000) (hin : ∀ t ∈ s.touched, 0 ≤ t ∧ t < zs.length) (hcov : ∀ a : Nat, a < zs.length → zs[a]? ≠ ys[a]? → (a : Int) ∈ s.touched) :
    Calls Try.prog 33 #[.pointer (some ⟨s.F, 0, none⟩), at0 g zs.length, at0 h ys.length] w fun e w' => CovR w e w' := by
  obtain ⟨i0, hi0, hz0, hz1, hz2⟩ := info_parts Try.info4
  obtain ⟨H, hH⟩ := size_name w
  have HH : Hid (w.heap.size = H) := hH
  have HF : Hid (FinAt w T s) := hf
  have HG : Hid (Rw w g 56 (zs.map (.int .i8))) := hg
  have HX : Hid (Rw w h 56 (ys.map (.int .i8))) := hh
  have HL : Hid (ys.length = zs.length) := hl
  have HIN : Hid (∀ t ∈ s.touched, 0 ≤ t ∧ t < zs.length) := hin
  have HCV : Hid (∀ a : Nat, a < zs.length → zs[a]? ≠ ys[a]? → (a : Int) ∈ s.touched) := hcov
  rw [hl]
  clear hH hf hg hh hl hin hcov
  obtain ⟨ts, hts⟩ : ∃ ts, s.touched = ts := ⟨_, rfl⟩
  have HTS : Hid (s.touched = ts) := hts
  rw [hts] at HIN HCV htl
  clear hts
  unfold at0
  go_enter Try.func33, Try.ntmps33
  go_wp2_with (at_make; refine wpList_mk _ rfl _ _ _ rfl 4 i0 (.bool false) 1 Try.underlying36 hi0 hz0 hz1 hz2 rfl _ _ _ _ zs.length rfl rfl rfl rfl (by omega) (by unfold maxLen; omega) H HH.out ?_; intro w1 hr hb hsz)
  have HI : Hid (VI w T s g h zs ys H (marks zs.length (ts.take 0)) w1) := by
    have hgl : g < H := by rw [← HH.out]; exact HG.out.lt
    have hhl : h < H := by rw [← HH.out]; exact HX.out.lt
    exact ⟨hb, HF.out.later (by rw [HH.out]; exact hb), HG.out.below hb hgl, HX.out.below hb hhl, by rw [List.take_zero]; simpa [marks] using hr⟩
  clear hr hb hsz
  refine (touchedLen_any HI.out.f).mono ?_
  rw [HTS.out]
  rintro e w2 ⟨rfl, rfl⟩
  go_wp2
  go_loopw [10] (fun c wr => ∃ k : Nat, k ≤ ts.length ∧ c = .int .i64 k ∧ Hid (VI w T s g h zs ys H (marks zs.length (ts.take k)) wr)) (fun c _ => ts.length - (intOf c).toNat)
  case atStart => exact ⟨0, Nat.zero_le _, rfl, HI⟩
  case round =>
    obtain ⟨k, hk, rfl, HR⟩ := hrel
    clear HI
    by_cases hlt : k < ts.length
    · have HC : Hid (Calls Try.prog 55 #[.pointer (some ⟨s.F, 0, none⟩), .int .i64 k] wr fun e w' => e = .returned (.int .i32 (ts.getD k 0)) ∧ w' = wr) := by
        have h := touched_any HR.out.f k (by rw [HTS.out]; exact hlt)
        rw [HTS.out] at h
        exact h
      have hgd : ts.getD k 0 = ts[k] := by simp [hlt]
      have hbd := HIN.out ts[k] (List.getElem_mem hlt)
      obtain ⟨a, ha⟩ : ∃ a : Nat, ts[k] = (a : Int) := Int.eq_ofNat_of_zero_le hbd.1
      rw [hgd, ha] at HC
      rw [ha] at hbd
      have hal : a < zs.length := by omega
      obtain ⟨u, hu⟩ := HR.out.m.there (o := a) (by rw [List.length_map, marks_len]; exact hal)
      have hfz : wr.frozen? ⟨H, a, none⟩ = false := HR.out.m.frozen a
      have HR2 : Hid (VI w T s g h zs ys H (marks zs.length (ts.take (k + 1))) (wr.setCell ⟨H, a, none⟩ (.bool true))) := by
        obtain ⟨b1, b2, b3, b4, b5⟩ := HR.out
        have hgl : g < H := by rw [← HH.out]; exact HG.out.lt
        have hhl : h < H := by rw [← HH.out]; exact HX.out.lt
        have hbs := b1.setCell (p := ⟨H, a, none⟩) (Nat.le_refl _) (.bool true)
        refine ⟨hbs, HF.out.later (by rw [HH.out]; exact hbs), HG.out.below hbs hgl, HX.out.below hbs hhl, ?_⟩
        rw [List.take_add_one, List.getElem?_eq_getElem hlt, ha]
        show Rw _ H 4 ((marks zs.length (ts.take k ++ [(a : Int)])).map .bool)
        rw [marks_snoc, List.map_set]
        exact b5.set a _
      clear hgd ha HR hbd
      go_wp2_with fail
      refine HC.out.mono ?_
      rintro e w3 ⟨rfl, rfl⟩
      clear HC
      go_wp2
      go_roundw
      case rel => exact ⟨k + 1, by omega, by go_num, HR2⟩
      case measure => simp [intOf]; omega
    · have HR3 : Hid (VI w T s g h zs ys H (marks zs.length ts) wr) := by have h := HR.out; rw [List.take_of_length_le (by omega)] at h; exact h
      clear HR
      go_wp2
      go_loopw [12] (fun c wr => ∃ k : Nat, k ≤ zs.length ∧ c = .int .i64 k ∧ Hid (VI w T s g h zs ys H (marks zs.length ts) wr)) (fun c _ => zs.length - (intOf c).toNat)
      case atStart => exact ⟨0, Nat.zero_le _, rfl, HR3⟩
      case round =>
        obtain ⟨a, ha, rfl, HR⟩ := hrel
        clear HR3
        by_cases hal : a < zs.length
        · have hay : a < ys.length := by rw [HL.out]; exact hal
          have c1 : wr.cell? ⟨g, a, none⟩ = some (.int .i8 zs[a]) := by rw [HR.out.r1.cell]; simp [hal]
          have c2 : wr.cell? ⟨h, a, none⟩ = some (.int .i8 ys[a]) := by rw [HR.out.r2.cell]; simp [hay]
          obtain ⟨b, hb⟩ := marks_get zs.length ts hal
          have c3 : wr.cell? ⟨H, a, none⟩ = some (.bool b) := by rw [HR.out.m.cell, List.getElem?_map, hb]; rfl
          have HR' : Hid (∀ q, VI w T s g h zs ys H (marks zs.length ts) (wr.drewN q)) := fun q => ⟨below_draws HR.out.b q, HR.out.f.later (below_draws (Below.refl _ _) q), HR.out.r1, HR.out.r2, HR.out.m⟩
          by_cases he : ys[a] = zs[a]
          · rw [he] at c2
            generalize zs[a] = z at *
            clear he HR hb
            go_wp2
            go_quiet (fail)
            go_wp2
            go_roundw
            case rel => exact ⟨a + 1, by omega, by go_num, HR'.out _⟩
            case measure => simp [intOf]; omega
          · have hbt : b = true := by
              have h := marks_in zs.length ts hal (HCV.out a hal (by rw [List.getElem?_eq_getElem hal, List.getElem?_eq_getElem hay]; intro e; injection e with e; exact he e.symm))
              rw [hb] at h
              injection h
            subst hbt
            have hb1 : (ys[a] != zs[a]) = true := by rw [bne_iff_ne]; exact he
            generalize zs[a] = z at *
            generalize ys[a] = y at *
            clear HR hb he
            go_wp2
            go_quiet (fail)
            go_wp2
            go_roundw
            case rel => exact ⟨a + 1, by omega, by go_num, HR'.out _⟩
            case measure => simp [intOf]; omega
        · have HE : Hid (CovR w (.returned (.bool true)) wr) := ⟨rfl, by rw [HH.out]; exact HR.out.b⟩
          clear HR
          go_wp2
          go_ret
          exact HE.out
end Go.Proofs.Qxb6605292a
