/-
  A thing in memory that is made of several blocks: 'Own w T A R'. T: a tag for each block (a ghost): what bears different tags lies in different blocks. A: the rows of fixed size, by tag: block, element type, cells. R: the rows that grow, by tag: the slice's value, element type, cells an element, length, cells.
-/
import Derived.Test.Qxb6605292aBase
namespace Go.Proofs.Qxb6605292a
open Go.RowKit

def Lay : Type := Nat → Option (Nat × TypeId × List Value)
def Gro : Type := Nat → Option (Value × TypeId × Nat × Nat × List Value)
def Lay.upd (f : Lay) (t : Nat) (x : Nat × TypeId × List Value) : Lay := fun t' => if t' = t then some x else f t'
def Gro.upd (f : Gro) (t : Nat) (x : Value × TypeId × Nat × Nat × List Value) : Gro := fun t' => if t' = t then some x else f t'
theorem Lay.upd_same (f : Lay) (t : Nat) (x) : f.upd t x t = some x := by simp [Lay.upd]
theorem Lay.upd_ne (f : Lay) {t t' : Nat} (x) (h : t' ≠ t) : f.upd t x t' = f t' := by simp [Lay.upd, h]
theorem Gro.upd_same (f : Gro) (t : Nat) (x) : f.upd t x t = some x := by simp [Gro.upd]
theorem Gro.upd_ne (f : Gro) {t t' : Nat} (x) (h : t' ≠ t) : f.upd t x t' = f t' := by simp [Gro.upd, h]

structure Own (w : World) (T : Nat → Nat) (A : Lay) (R : Gro) : Prop where
  arr : ∀ t b e l, A t = some (b, e, l) → T b = t ∧ Rw w b e l
  row : ∀ t v e z n xs, R t = some (v, e, z, n, xs) → w.ownsRow 0 e z v n xs ∧ ∀ g, v.ownBlock = some g → T g = t
  new : ∀ b, w.heap.size ≤ b → T b = 0

theorem ownsRow_slice {w : World} {base : Nat} {e : TypeId} {size : Nat} {v : Value} {n : Nat} {xs : List Value} (h : w.ownsRow base e size v n xs) : ∃ ao cap, v = .slice ao n cap ∧ n ≤ cap ∧ cap ≤ maxLen := by
  rcases h.2 with ⟨rfl, rfl⟩ | ⟨g, cap, cur, rfl, _, _, h1, h2, _⟩
  · exact ⟨none, 0, rfl, Nat.le_refl _, Nat.zero_le _⟩
  · exact ⟨_, cap, rfl, h1, h2⟩
theorem ownsRow_kept {M : Nat → Prop} {w w' : World} {base : Nat} {e : TypeId} {size : Nat} {v : Value} {n : Nat} {xs : List Value} (h : w.ownsRow base e size v n xs) (hk : Kept M w w') (hm : ∀ g, v.ownBlock = some g → ¬ M g) : w'.ownsRow base e size v n xs := by
  refine ⟨h.1, ?_⟩
  rcases h.2 with hn | ⟨g, cap, cur, rfl, hb, hg, r⟩
  · exact .inl hn
  · have hlt : g < w.heap.size := by
      rcases Nat.lt_or_ge g w.heap.size with h' | h'
      · exact h'
      · rw [Array.getElem?_eq_none h'] at hg; cases hg
    exact .inr ⟨g, cap, cur, rfl, hb, by rw [hk.block g hlt (hm g rfl)]; exact hg, r⟩

section
variable {w w' : World} {T T' : Nat → Nat} {A A' : Lay} {R R' : Gro}

theorem Own.congr (h : Own w T A R) (hA : ∀ t, A' t = A t) (hR : ∀ t, R' t = R t) : Own w T A' R' :=
  ⟨fun t b e l ht => h.arr t b e l (by rw [← hA]; exact ht), fun t v e z n xs ht => h.row t v e z n xs (by rw [← hR]; exact ht), h.new⟩
/-- A part of what is owned is owned. -/
theorem Own.sub (h : Own w T A R) (hA : ∀ t x, A' t = some x → A t = some x) (hR : ∀ t x, R' t = some x → R t = some x) : Own w T A' R' :=
  ⟨fun t b e l ht => h.arr t b e l (hA _ _ ht), fun t v e z n xs ht => h.row t v e z n xs (hR _ _ ht), h.new⟩
theorem Own.drew (h : Own w T A R) : Own w.drew T A R := ⟨h.arr, h.row, h.new⟩
theorem Own.lt (h : Own w T A R) {t b : Nat} {e : TypeId} {l : List Value} (ht : A t = some (b, e, l)) : b < w.heap.size := (h.arr _ _ _ _ ht).2.lt
theorem Own.tag_lt (h : Own w T A R) {b : Nat} (hb : T b ≠ 0) : b < w.heap.size := by
  rcases Nat.lt_or_ge b w.heap.size with h' | h'
  · exact h'
  · exact absurd (h.new b h') hb
/-- Where nothing with a tag has been touched, all is owned as before. -/
theorem Own.kept {M : Nat → Prop} (h : Own w T A R) (hk : Kept M w w') (hm : ∀ b, T b ≠ 0 → ¬ M b) (hA : ∀ t x, A t = some x → t ≠ 0) (hR : ∀ t x, R t = some x → t ≠ 0) : Own w' T A R :=
  ⟨fun t b e l ht => by
      obtain ⟨h1, h2⟩ := h.arr t b e l ht
      exact ⟨h1, h2.kept hk (hm b (by rw [h1]; exact hA _ _ ht))⟩,
   fun t v e z n xs ht => by
      obtain ⟨h1, h2⟩ := h.row t v e z n xs ht
      exact ⟨ownsRow_kept h1 hk (fun g hg => hm g (by rw [h2 g hg]; exact hR _ _ ht)), h2⟩,
   fun b hb => h.new b (Nat.le_trans hk.size hb)⟩
theorem Own.later (h : Own w T A R) (hb : Below w.heap.size w w') : Own w' T A R :=
  ⟨fun t b e l ht => by
      obtain ⟨h1, h2⟩ := h.arr t b e l ht
      exact ⟨h1, h2.below hb h2.lt⟩,
   fun t v e z n xs ht => by
      obtain ⟨h1, h2⟩ := h.row t v e z n xs ht
      exact ⟨ownsRow_kept h1 ((Kept.refl (fun _ => False) w).of_below hb) (fun _ _ h => h), h2⟩,
   fun b hb' => h.new b (Nat.le_trans hb.size hb')⟩
/-- A cell of a row of fixed size. -/
theorem Own.cell (h : Own w T A R) {t b : Nat} {e : TypeId} {l : List Value} (ht : A t = some (b, e, l)) (o : Nat) : w.cell? ⟨b, o, none⟩ = l[o]? := (h.arr _ _ _ _ ht).2.cell o
theorem Own.at (h : Own w T A R) {t b : Nat} {e : TypeId} {l : List Value} (ht : A t = some (b, e, l)) {o : Nat} {u : Value} (ho : l[o]? = some u) : w.cell? ⟨b, o, none⟩ = some u := by rw [h.cell ht, ho]
theorem Own.frozen (h : Own w T A R) {t b : Nat} {e : TypeId} {l : List Value} (ht : A t = some (b, e, l)) (o : Nat) : w.frozen? ⟨b, o, none⟩ = false := (h.arr _ _ _ _ ht).2.frozen o
/-- A cell of a row that grows. -/
theorem Own.rcell (h : Own w T A R) {t g n cap z : Nat} {e : TypeId} {xs : List Value} (ht : R t = some (.slice (some ⟨g, 0, none⟩) n cap, e, z, n, xs)) {j : Nat} (hj : j < n * z) : w.cell? ⟨g, j, none⟩ = xs[j]? :=
  (h.row _ _ _ _ _ _ ht).1.cellAt j hj
theorem Own.rfrozen (h : Own w T A R) {t g n cap z : Nat} {e : TypeId} {xs : List Value} (ht : R t = some (.slice (some ⟨g, 0, none⟩) n cap, e, z, n, xs)) (j : Nat) : w.frozen? ⟨g, j, none⟩ = false :=
  (h.row _ _ _ _ _ _ ht).1.frozenAt j
/-- A row that is not empty lies at a block's head. -/
theorem Own.rform (h : Own w T A R) {t n z : Nat} {v : Value} {e : TypeId} {xs : List Value} (ht : R t = some (v, e, z, n, xs)) (hn : 0 < n) : ∃ g cap, v = .slice (some ⟨g, 0, none⟩) n cap ∧ T g = t ∧ g < w.heap.size := by
  obtain ⟨h1, h2⟩ := h.row _ _ _ _ _ _ ht
  obtain ⟨g, cap, rfl, _, hlt⟩ := h1.form hn
  exact ⟨g, cap, rfl, h2 g rfl, hlt⟩

/-- 'xs[o] = v' in a row of fixed size. -/
theorem Own.set (h : Own w T A R) {t b : Nat} {e : TypeId} {l : List Value} (ht : A t = some (b, e, l)) (hnot : R t = none) (o : Nat) (v : Value) : Own (w.setCell ⟨b, o, none⟩ v) T (A.upd t (b, e, l.set o v)) R := by
  obtain ⟨tb, rb⟩ := h.arr _ _ _ _ ht
  refine ⟨fun t' b' e' l' ht' => ?_, fun t' v' e' z n xs ht' => ?_, fun b' hb => h.new b' (by simpa using hb)⟩
  · by_cases hne : t' = t
    · subst hne
      rw [Lay.upd_same] at ht'
      cases ht'
      exact ⟨tb, rb.set o v⟩
    · rw [Lay.upd_ne _ _ hne] at ht'
      obtain ⟨h1, h2⟩ := h.arr _ _ _ _ ht'
      refine ⟨h1, h2.set_ne (p := ⟨b, o, none⟩) (fun hb => hne ?_) v⟩
      have : b' = b := hb
      rw [← h1, this, tb]
  · obtain ⟨h1, h2⟩ := h.row _ _ _ _ _ _ ht'
    refine ⟨ownsRow_kept h1 ((Kept.refl (fun k => k = b) w).setCell (p := ⟨b, o, none⟩) (fun _ => rfl) v) (fun g hg hgb => ?_), h2⟩
    have := h2 g hg
    rw [hgb, tb] at this
    subst this
    rw [hnot] at ht'
    cases ht'
/-- 'xs[i] = v' in a row that grows. -/
theorem Own.rset (h : Own w T A R) {t g n cap z : Nat} {e : TypeId} {xs : List Value} (ht : R t = some (.slice (some ⟨g, 0, none⟩) n cap, e, z, n, xs)) (hnot : A t = none) (o : Nat) (v : Value) :
    Own (w.setCell ⟨g, o, none⟩ v) T A (R.upd t (.slice (some ⟨g, 0, none⟩) n cap, e, z, n, xs.set o v)) := by
  obtain ⟨r1, r2⟩ := h.row _ _ _ _ _ _ ht
  have tg : T g = t := r2 g rfl
  refine ⟨fun t' b' e' l' ht' => ?_, fun t' v' e' z' n' xs' ht' => ?_, fun b' hb => h.new b' (by simpa using hb)⟩
  · obtain ⟨h1, h2⟩ := h.arr _ _ _ _ ht'
    refine ⟨h1, h2.set_ne (p := ⟨g, o, none⟩) (fun hb => ?_) v⟩
    have : b' = g := hb
    subst this
    rw [tg] at h1
    subst h1
    rw [hnot] at ht'
    cases ht'
  · by_cases hne : t' = t
    · subst hne
      rw [Gro.upd_same] at ht'
      cases ht'
      exact ⟨(r1.stored o v).1, r2⟩
    · rw [Gro.upd_ne _ _ hne] at ht'
      obtain ⟨h1, h2⟩ := h.row _ _ _ _ _ _ ht'
      refine ⟨ownsRow_kept h1 ((Kept.refl (fun k => k = g) w).setCell (p := ⟨g, o, none⟩) (fun _ => rfl) v) (fun g' hg hgb => hne ?_), h2⟩
      have := h2 g' hg
      rw [hgb, tg] at this
      exact this.symm
/-- The tags behind an append: the new block gets the row's tag. -/
def retag (T : Nat → Nat) (g t : Nat) : Nat → Nat := fun b => if b = g then t else T b
theorem retag_old {T : Nat → Nat} {g t H : Nat} {ob : Option Nat} (hat : ob = some g ∨ g = H) (ht : ∀ k, ob = some k → T k = t) {b : Nat} (hb : b < H) : retag T g t b = T b := by
  unfold retag
  split
  · rename_i e
    subst e
    rcases hat with h | h
    · exact (ht _ h).symm
    · omega
  · rfl
/-- append to a row that grows ('w0': the world in which what is appended has been laid). -/
theorem Own.push (h : Own w T A R) {t n z m gg cap H : Nat} {v : Value} {e : TypeId} {xs news : List Value} (ht : R t = some (v, e, z, n, xs)) (hnot : A t = none) {w0 w1 : World} (hb : Below w.heap.size w w0)
    (hown : w1.ownsRow 0 e z (.slice (some ⟨gg, 0, none⟩) (n + m) cap) (n + m) (xs ++ news)) (hgrow : w0.grownBy w1 v.ownBlock) (hat : v.ownBlock = some gg ∨ gg = H) (hH : w0.heap.size = H) (hlt : gg < w1.heap.size) :
    Own w1 (retag T gg t) A (R.upd t (.slice (some ⟨gg, 0, none⟩) (n + m) cap, e, z, n + m, xs ++ news)) := by
  obtain ⟨r1, r2⟩ := h.row _ _ _ _ _ _ ht
  have hk : Kept (fun b => T b = t) w w1 := ((Kept.refl _ w).of_below hb).grown hgrow (fun k _ hk => r2 k hk)
  have hold : ∀ b, b < w.heap.size → retag T gg t b = T b := fun b hb' => retag_old hat r2 (by rw [← hH]; exact Nat.lt_of_lt_of_le hb' hb.size)
  refine ⟨fun t' b' e' l' ht' => ?_, fun t' v' e' z' n' xs' ht' => ?_, fun b' hb' => ?_⟩
  · obtain ⟨h1, h2⟩ := h.arr _ _ _ _ ht'
    refine ⟨by rw [hold b' h2.lt]; exact h1, h2.kept hk (fun hh => ?_)⟩
    rw [h1] at hh
    subst hh
    rw [hnot] at ht'
    cases ht'
  · by_cases hne : t' = t
    · subst hne
      rw [Gro.upd_same] at ht'
      cases ht'
      exact ⟨hown, fun g hg => by simp [Value.ownBlock] at hg; subst hg; simp [retag]⟩
    · rw [Gro.upd_ne _ _ hne] at ht'
      obtain ⟨h1, h2⟩ := h.row _ _ _ _ _ _ ht'
      refine ⟨ownsRow_kept h1 hk (fun g' hg hgb => hne ?_), fun g hg => ?_⟩
      · rw [← h2 g' hg]; exact hgb
      · rw [hold g (h1.lt g hg).2]; exact h2 g hg
  · unfold retag
    rw [if_neg (by omega)]
    exact h.new b' (by have := hb.size; have := hgrow.size; omega)
/-- The slice of a row cut to nothing: 'xs[:0]'. -/
theorem Own.cut (h : Own w T A R) {t n z : Nat} {ao : Option Addr} {cap : Nat} {e : TypeId} {xs : List Value} (ht : R t = some (.slice ao n cap, e, z, n, xs)) :
    Own w T A (R.upd t (.slice ao 0 cap, e, z, 0, [])) := by
  refine ⟨h.arr, fun t' v' e' z' n' xs' ht' => ?_, h.new⟩
  by_cases hne : t' = t
  · subst hne
    rw [Gro.upd_same] at ht'
    cases ht'
    obtain ⟨r1, r2⟩ := h.row _ _ _ _ _ _ ht
    refine ⟨⟨by simp, ?_⟩, fun g hg => r2 g ?_⟩
    · rcases r1.2 with ⟨hv, hn⟩ | ⟨g, cap', cur, hv, h1, h2, h3, h4, h5, h6⟩
      · cases hv
        exact .inl ⟨rfl, rfl⟩
      · cases hv
        exact .inr ⟨g, _, cur, rfl, h1, h2, Nat.zero_le _, h4, h5, by simp⟩
    · cases ao with
      | none => simp [Value.ownBlock] at hg
      | some p => simpa [Value.ownBlock] using hg
  · rw [Gro.upd_ne _ _ hne] at ht'
    exact h.row _ _ _ _ _ _ ht'
/-- A new row of fixed size. -/
theorem Own.addArr (h : Own w T A R) {t b : Nat} {e : TypeId} {l : List Value} (hb : Below w.heap.size w w') (hr : Rw w' b e l) (hn : w.heap.size ≤ b) (hA : A t = none) (hR : R t = none) (h0 : t ≠ 0) : Own w' (retag T b t) (A.upd t (b, e, l)) R := by
  refine ⟨fun t' b' e' l' ht' => ?_, fun t' v' e' z n xs ht' => ?_, fun b' hb' => ?_⟩
  · by_cases hne : t' = t
    · subst hne
      rw [Lay.upd_same] at ht'
      cases ht'
      exact ⟨by simp [retag], hr⟩
    · rw [Lay.upd_ne _ _ hne] at ht'
      obtain ⟨h1, h2⟩ := h.arr _ _ _ _ ht'
      have := h2.lt
      exact ⟨by unfold retag; rw [if_neg (by omega)]; exact h1, h2.below hb h2.lt⟩
  · obtain ⟨h1, h2⟩ := h.row _ _ _ _ _ _ ht'
    refine ⟨ownsRow_kept h1 ((Kept.refl (fun _ => False) w).of_below hb) (fun _ _ h => h), fun g hg => ?_⟩
    have := (h1.lt g hg).2
    unfold retag
    rw [if_neg (by omega)]
    exact h2 g hg
  · have := hr.lt
    unfold retag
    rw [if_neg (by omega)]
    exact h.new b' (by have := hb.size; omega)
/-- A new row that grows: nil. -/
theorem Own.addNil (h : Own w T A R) {t z : Nat} {e : TypeId} (hR : R t = none) : Own w T A (R.upd t (.slice none 0 0, e, z, 0, [])) := by
  refine ⟨h.arr, fun t' v' e' z' n' xs' ht' => ?_, h.new⟩
  by_cases hne : t' = t
  · subst hne
    rw [Gro.upd_same] at ht'
    cases ht'
    exact ⟨World.ownsRow_nil _ _ _ _, fun g hg => by simp [Value.ownBlock] at hg⟩
  · rw [Gro.upd_ne _ _ hne] at ht'
    exact h.row _ _ _ _ _ _ ht'
theorem Own.nothing (w : World) : Own w (fun _ => 0) (fun _ => none) (fun _ => none) := ⟨fun _ _ _ _ h => by simp at h, fun _ _ _ _ _ _ h => by simp at h, fun _ _ => rfl⟩
end

/-- From (w, T) to (w', T'): only blocks whose tags are in M have been touched; old blocks keep their tags. -/
structure Step (M : Nat → Prop) (w : World) (T : Nat → Nat) (w' : World) (T' : Nat → Nat) : Prop where
  kept : Kept (fun b => M (T b)) w w'
  tags : ∀ b, b < w.heap.size → T' b = T b
theorem Step.refl (M : Nat → Prop) (w : World) (T : Nat → Nat) : Step M w T w T := ⟨Kept.refl _ _, fun _ _ => rfl⟩
theorem Step.trans {M : Nat → Prop} {a b c : World} {T T1 T2 : Nat → Nat} (h : Step M a T b T1) (k : Step M b T1 c T2) : Step M a T c T2 :=
  ⟨h.kept.trans k.kept (fun i hi hh => by rw [h.tags i hi] at hh; exact hh), fun i hi => by rw [k.tags i (Nat.lt_of_lt_of_le hi h.kept.size), h.tags i hi]⟩
theorem Step.mono {M M' : Nat → Prop} {a b : World} {T T1 : Nat → Nat} (h : Step M a T b T1) (hm : ∀ t, M t → M' t) : Step M' a T b T1 := ⟨h.kept.mono (fun _ _ => hm _), h.tags⟩
theorem Step.drew {M : Nat → Prop} {a b : World} {T T1 : Nat → Nat} (h : Step M a T b T1) : Step M a T b.drew T1 := ⟨h.kept.drew, h.tags⟩
theorem Step.later {M : Nat → Prop} {a b c : World} {T T1 : Nat → Nat} (h : Step M a T b T1) (hb : Below b.heap.size b c) : Step M a T c T1 := ⟨h.kept.of_below hb, h.tags⟩
theorem Step.size {M : Nat → Prop} {a b : World} {T T1 : Nat → Nat} (h : Step M a T b T1) : a.heap.size ≤ b.heap.size := h.kept.size
theorem Step.set {M : Nat → Prop} {a w : World} {T T1 : Nat → Nat} (h : Step M a T w T1) {b o : Nat} (hm : M (T1 b)) (v : Value) : Step M a T (w.setCell ⟨b, o, none⟩ v) T1 :=
  ⟨h.kept.setCell (p := ⟨b, o, none⟩) (fun hlt => by show M (T b); rw [← h.tags b hlt]; exact hm) v, h.tags⟩
theorem Step.grown {M : Nat → Prop} {a w w0 w1 : World} {T T1 : Nat → Nat} {ob : Option Nat} {g t H : Nat} (h : Step M a T w T1) (hb : Below w.heap.size w w0) (hg : w0.grownBy w1 ob) (hat : ob = some g ∨ g = H) (hH : w0.heap.size = H)
    (ht : ∀ k, ob = some k → T1 k = t) (hm : M t) : Step M a T w1 (retag T1 g t) :=
  ⟨(h.kept.of_below hb).grown hg (fun k hk e => by show M (T k); rw [← h.tags k hk, ht k e]; exact hm),
   fun b hlt => by rw [retag_old hat ht (by rw [← hH]; exact Nat.lt_of_lt_of_le hlt (Nat.le_trans h.kept.size hb.size))]; exact h.tags b hlt⟩
theorem Step.below {M : Nat → Prop} {a b : World} {T T1 : Nat → Nat} (h : Step M a T b T1) {B : Nat} (hB : B ≤ a.heap.size) (hm : ∀ i, i < B → ¬ M (T i)) : Below B a b := h.kept.below hB hm
/-- A thing with tags that are not in M is left alone. -/
theorem Rw.step {M : Nat → Prop} {a b : World} {T T1 : Nat → Nat} {k : Nat} {e : TypeId} {l : List Value} (hr : Rw a k e l) (h : Step M a T b T1) (hn : ¬ M (T k)) : Rw b k e l := hr.kept h.kept hn

theorem Step.add {M : Nat → Prop} {w w' : World} {T : Nat → Nat} {b t : Nat} (hb : Below w.heap.size w w') (hn : w.heap.size ≤ b) : Step M w T w' (retag T b t) :=
  ⟨(Kept.refl _ _).of_below hb, fun b' hb' => by unfold retag; rw [if_neg (by omega)]⟩
end Go.Proofs.Qxb6605292a
