/-
  Memory in small words: a block known whole ('Rw'), what a call leaves as it was ('Kept'), slices of integers that are read ('ISl', 'RSl', 'BSl'). No program in sight.
-/
import Derived.WalkKit
import Derived.WalkSpells
import Derived.Deep.AppendLies
namespace Go.Proofs.Qxb6605292a
open Go.RowKit

/-- Block b is a row of cells, of elements of type e, nothing frozen, holding just l. -/
def Rw (w : World) (b : Nat) (e : TypeId) (l : List Value) : Prop := w.heap[b]? = some (.cells l.toArray e (0, 0))

theorem Rw.lt {w : World} {b : Nat} {e : TypeId} {l : List Value} (h : Rw w b e l) : b < w.heap.size := by
  rcases Nat.lt_or_ge b w.heap.size with h' | h'
  · exact h'
  · unfold Rw at h; rw [Array.getElem?_eq_none h'] at h; cases h
theorem Rw.cell {w : World} {b : Nat} {e : TypeId} {l : List Value} (h : Rw w b e l) (o : Nat) : w.cell? ⟨b, o, none⟩ = l[o]? := by
  rw [cell_of_row w b o _ e _ h]; simp
theorem Rw.frozen {w : World} {b : Nat} {e : TypeId} {l : List Value} (h : Rw w b e l) (o : Nat) : w.frozen? ⟨b, o, none⟩ = false :=
  frozen_of_row w b o _ e h
theorem Rw.same {w w' : World} {b : Nat} {e : TypeId} {l : List Value} (h : Rw w b e l) (hs : w'.heap[b]? = w.heap[b]?) : Rw w' b e l := by
  unfold Rw at *; rw [hs]; exact h
theorem Rw.set {w : World} {b : Nat} {e : TypeId} {l : List Value} (h : Rw w b e l) (o : Nat) (v : Value) : Rw (w.setCell ⟨b, o, none⟩ v) b e (l.set o v) := by
  have := heap_setCell_same w b o _ e v h
  unfold Rw; rw [this]; simp
theorem Rw.set_ne {w : World} {b : Nat} {e : TypeId} {l : List Value} (h : Rw w b e l) {p : Addr} (hp : b ≠ p.block) (v : Value) : Rw (w.setCell p v) b e l :=
  h.same (heap_setCell_other w p b v hp)
theorem Rw.alloc {w : World} {b : Nat} {e : TypeId} {l : List Value} (h : Rw w b e l) (o : Obj) : Rw (w.alloc o) b e l :=
  h.same (Below.heap_alloc w o b h.lt)
theorem Rw.drew {w : World} {b : Nat} {e : TypeId} {l : List Value} (h : Rw w b e l) : Rw w.drew b e l := h
theorem Rw.new (w : World) (e : TypeId) (l : List Value) : Rw (w.alloc (.cells l.toArray e)) w.heap.size e l := heap_alloc_new w _
theorem Rw.below {B : Nat} {w w' : World} {b : Nat} {e : TypeId} {l : List Value} (h : Rw w b e l) (hb : Below B w w') (hlt : b < B) : Rw w' b e l :=
  h.same (hb.block b hlt)
theorem Rw.inj {w : World} {b : Nat} {e e' : TypeId} {l l' : List Value} (h : Rw w b e l) (h' : Rw w b e' l') : e = e' ∧ l = l' := by
  unfold Rw at h h'; rw [h] at h'; simp at h'; exact ⟨h'.2, h'.1⟩

/-- What is not in M is as it was; the streams are as they were; no block has gone. -/
structure Kept (M : Nat → Prop) (w w' : World) : Prop where
  os : w'.os = w.os
  tape : w'.tape = w.tape
  output : w'.output = w.output
  size : w.heap.size ≤ w'.heap.size
  block : ∀ k, k < w.heap.size → ¬ M k → w'.heap[k]? = w.heap[k]?

theorem Kept.refl (M : Nat → Prop) (w : World) : Kept M w w := ⟨rfl, rfl, rfl, Nat.le_refl _, fun _ _ _ => rfl⟩
theorem Kept.trans {M M' : Nat → Prop} {a b c : World} (h : Kept M a b) (k : Kept M' b c) (hm : ∀ i, i < a.heap.size → M' i → M i) : Kept M a c :=
  ⟨k.os.trans h.os, k.tape.trans h.tape, k.output.trans h.output, Nat.le_trans h.size k.size,
    fun i hi hn => (k.block i (Nat.lt_of_lt_of_le hi h.size) (fun hh => hn (hm i hi hh))).trans (h.block i hi hn)⟩
theorem Kept.mono {M M' : Nat → Prop} {a b : World} (h : Kept M a b) (hm : ∀ i, i < a.heap.size → M i → M' i) : Kept M' a b :=
  ⟨h.os, h.tape, h.output, h.size, fun i hi hn => h.block i hi (fun hh => hn (hm i hi hh))⟩
theorem Kept.drew {M : Nat → Prop} {a w : World} (h : Kept M a w) : Kept M a w.drew := ⟨h.os, h.tape, h.output, h.size, h.block⟩
theorem Kept.alloc {M : Nat → Prop} {a w : World} (h : Kept M a w) (o : Obj) : Kept M a (w.alloc o) :=
  h.trans (M' := fun _ => False) ⟨rfl, rfl, rfl, by simp, fun k hk _ => Below.heap_alloc _ _ _ hk⟩ (fun _ _ h => h.elim)
theorem Kept.setCell {M : Nat → Prop} {a w : World} (h : Kept M a w) {p : Addr} (hp : p.block < a.heap.size → M p.block) (u : Value) : Kept M a (w.setCell p u) :=
  h.trans (M' := fun k => k = p.block) ⟨rfl, rfl, rfl, by simp, fun k _ hn => heap_setCell_other _ _ _ _ hn⟩ (fun i hi e => by subst e; exact hp hi)
theorem Kept.grown {M : Nat → Prop} {a w w' : World} {row : Option Nat} (h : Kept M a w) (hg : w.grownBy w' row) (hr : ∀ k, k < a.heap.size → row = some k → M k) : Kept M a w' :=
  h.trans (M' := fun k => some k = row) ⟨hg.os, hg.tape, hg.output, hg.size, fun k hk hn => hg.block k hk hn⟩ (fun i hi e => hr i hi e.symm)
theorem Kept.of_below {M : Nat → Prop} {a w w' : World} (h : Kept M a w) (hb : Below w.heap.size w w') : Kept M a w' :=
  h.trans (M' := fun _ => False) ⟨hb.os, hb.tape, hb.output, hb.size, fun k hk _ => hb.block k hk⟩ (fun _ _ h => h.elim)
theorem Kept.below {M : Nat → Prop} {B : Nat} {a b : World} (h : Kept M a b) (hB : B ≤ a.heap.size) (hm : ∀ i, i < B → ¬ M i) : Below B a b :=
  ⟨h.os, h.tape, h.output, h.size, fun k hk => h.block k (by omega) (hm k hk)⟩
theorem Rw.kept {M : Nat → Prop} {w w' : World} {b : Nat} {e : TypeId} {l : List Value} (h : Rw w b e l) (hk : Kept M w w') (hn : ¬ M b) : Rw w' b e l :=
  h.same (hk.block b h.lt hn)
theorem below_all {w w1 w2 : World} (h : Below w.heap.size w w1) (h' : Below w1.heap.size w1 w2) : Below w.heap.size w w2 := h.trans (h'.mono h.size)

/-- A slice of integers of kind k that is read: zs. -/
def KSl (k : IntKind) (w : World) (v : Value) (zs : List Int) : Prop :=
  ∃ ao cap, v = .slice ao zs.length cap ∧ zs.length ≤ maxLen ∧ (ao = none → zs = [] ∧ cap = 0) ∧
    ∀ i, (hi : i < zs.length) → ∃ b off, ao = some ⟨b, off, none⟩ ∧ w.cell? ⟨b, off + i, none⟩ = some (.int k zs[i])
/-- A slice of bools that is read. -/
def BSl (w : World) (v : Value) (zs : List Bool) : Prop :=
  ∃ ao cap, v = .slice ao zs.length cap ∧ zs.length ≤ maxLen ∧ (ao = none → zs = [] ∧ cap = 0) ∧
    ∀ i, (hi : i < zs.length) → ∃ b off, ao = some ⟨b, off, none⟩ ∧ w.cell? ⟨b, off + i, none⟩ = some (.bool zs[i])
/-- A slice of slices of ints that is read. -/
def RSl (w : World) (v : Value) (rows : List (List Int)) : Prop :=
  ∃ ao cap, v = .slice ao rows.length cap ∧ rows.length ≤ maxLen ∧ (ao = none → rows = [] ∧ cap = 0) ∧
    ∀ i, (hi : i < rows.length) → ∃ b off rv, ao = some ⟨b, off, none⟩ ∧ w.cell? ⟨b, off + i, none⟩ = some rv ∧ KSl .i64 w rv rows[i]

theorem KSl.later {k : IntKind} {w w' : World} {v : Value} {zs : List Int} (h : KSl k w v zs) (hb : Below w.heap.size w w') : KSl k w' v zs := by
  obtain ⟨ao, cap, h1, h2, h3, h4⟩ := h
  refine ⟨ao, cap, h1, h2, h3, fun i hi => ?_⟩
  obtain ⟨b, off, e1, e2⟩ := h4 i hi
  exact ⟨b, off, e1, cell_later hb e2⟩
theorem BSl.later {w w' : World} {v : Value} {zs : List Bool} (h : BSl w v zs) (hb : Below w.heap.size w w') : BSl w' v zs := by
  obtain ⟨ao, cap, h1, h2, h3, h4⟩ := h
  refine ⟨ao, cap, h1, h2, h3, fun i hi => ?_⟩
  obtain ⟨b, off, e1, e2⟩ := h4 i hi
  exact ⟨b, off, e1, cell_later hb e2⟩
theorem RSl.later {w w' : World} {v : Value} {rows : List (List Int)} (h : RSl w v rows) (hb : Below w.heap.size w w') : RSl w' v rows := by
  obtain ⟨ao, cap, h1, h2, h3, h4⟩ := h
  refine ⟨ao, cap, h1, h2, h3, fun i hi => ?_⟩
  obtain ⟨b, off, rv, e1, e2, e3⟩ := h4 i hi
  exact ⟨b, off, rv, e1, cell_later hb e2, e3.later hb⟩
theorem KSl.nil (k : IntKind) (w : World) : KSl k w (.slice none 0 0) [] :=
  ⟨none, 0, rfl, Nat.zero_le _, fun _ => ⟨rfl, rfl⟩, fun i hi => by simp at hi⟩
theorem BSl.nil (w : World) : BSl w (.slice none 0 0) [] :=
  ⟨none, 0, rfl, Nat.zero_le _, fun _ => ⟨rfl, rfl⟩, fun i hi => by simp at hi⟩
theorem RSl.nil (w : World) : RSl w (.slice none 0 0) [] :=
  ⟨none, 0, rfl, Nat.zero_le _, fun _ => ⟨rfl, rfl⟩, fun i hi => by simp at hi⟩
/-- A block known whole, read through a slice at its head. -/
theorem Rw.ksl {k : IntKind} {w : World} {b : Nat} {e : TypeId} {zs : List Int} (h : Rw w b e (zs.map (.int k))) (hm : zs.length ≤ maxLen) (cap : Nat) : KSl k w (.slice (some ⟨b, 0, none⟩) zs.length cap) zs :=
  ⟨_, cap, rfl, hm, (fun h => by cases h), fun i hi => ⟨b, 0, rfl, by rw [Nat.zero_add, h.cell]; simp [hi]⟩⟩
theorem Rw.bsl {w : World} {b : Nat} {e : TypeId} {zs : List Bool} (h : Rw w b e (zs.map .bool)) (hm : zs.length ≤ maxLen) (cap : Nat) : BSl w (.slice (some ⟨b, 0, none⟩) zs.length cap) zs :=
  ⟨_, cap, rfl, hm, (fun h => by cases h), fun i hi => ⟨b, 0, rfl, by rw [Nat.zero_add, h.cell]; simp [hi]⟩⟩

theorem ret_bool {a b : Bool} (h : a = b) : Ending.returned (.bool a) = .returned (.bool b) := by rw [h]
theorem ret_int {k : IntKind} {a b : Int} (h : a = b) : Ending.returned (.int k a) = .returned (.int k b) := by rw [h]

/-- 'make([]T, n)', one cell an element: a new block, known whole. H: the heap's size ahead of it. -/
theorem wpList_mk {P : Program} (w : World) {ops : Array Oper} {rest : List Oper} {o : Oper} {a : Act} {Q : Exit → Act → World → Prop}
    (hg : o.guard = none) (l c : Operand) (t : TypeId) (hop : o.op = Op.makeSlice t l c)
    (e : TypeId) (i : TypeInfo) (z : Value) (by_ : Nat) (h1 : P.underlying t = some (.slice e)) (h2 : P.info? e = some i) (h3 : i.zero = some z) (h4 : i.size = 1) (h5 : i.bytes = by_) (hz1 : z.cells = #[z])
    (kl kc : IntKind) (L C : Int) (n : Nat) (hl : a.eval l = .int kl L) (hc : a.eval c = .int kc C) (hL : L = (n : Int)) (hC : C = (n : Int)) (b2 : by_ * n ≤ 281474976710656) (b3 : n ≤ maxLen)
    (H : Nat) (hH : w.heap.size = H)
    (hK : ∀ w', Rw w' H e (List.replicate n z) → Below H w w' → w'.heap.size = H + 1 → wpList P ops Q rest (a.put o.dst (.slice (some ⟨H, 0, none⟩) n n)) w') :
    wpList P ops Q (o :: rest) a w := by
  refine wpList_plain hg fun K hK' => ?_
  subst hL hC hH h5
  have h63' : (n : Int) ≤ 9223372036854775807 := by unfold maxLen at b3; omega
  have hb' : (i.bytes : Int) * (n : Int) ≤ 281474976710656 := by
    have h : ((i.bytes * n : Nat) : Int) ≤ 281474976710656 := by omega
    rwa [Int.natCast_mul] at h
  have hrun := run_make (P := P) w t e i z h1 h2 h3 kl kc n n (by omega) (Int.le_refl _) hb' h63'
  simp only [Int.toNat_natCast, h4, Nat.mul_one, hz1] at hrun
  unfold Oper.wp
  simp [execOp, hop, hl, hc, hrun, Result.andThen]
  refine hK' _ _ (hK _ ?_ ((Below.refl _ _).alloc (Nat.le_refl _) _) (by simp))
  have e1 : madeCells #[z] n = (List.replicate n z).toArray := by
    rw [← toList_madeCells_one]
  rw [e1]
  exact Rw.new w e _

/-- What was there is there: as two rules for the walk. -/
theorem bcell {H : Nat} {W w1 : World} (hb : Below H W w1) : (∀ b o, b < H → w1.cell? ⟨b, o, none⟩ = W.cell? ⟨b, o, none⟩) ∧ (∀ b o, b < H → w1.frozen? ⟨b, o, none⟩ = W.frozen? ⟨b, o, none⟩) :=
  ⟨fun b o h => hb.cell (p := ⟨b, o, none⟩) h, fun b o h => hb.frozen (p := ⟨b, o, none⟩) h⟩
theorem cell_at {w : World} {b o : Nat} {v : Value} (h : w.cell? ⟨b, o, none⟩ = some v) : b < w.heap.size := World.block_lt_of_cell? w _ h
theorem size_name (w : World) : ∃ H, w.heap.size = H := ⟨_, rfl⟩

theorem Rw.there {w : World} {b : Nat} {e : TypeId} {l : List Value} (h : Rw w b e l) {o : Nat} (ho : o < l.length) : ∃ u, w.cell? ⟨b, o, none⟩ = some u :=
  ⟨l[o], by rw [h.cell]; simp [ho]⟩
theorem Rw.at {w : World} {b : Nat} {e : TypeId} {l : List Value} (h : Rw w b e l) {o : Nat} {u : Value} (ho : l[o]? = some u) : w.cell? ⟨b, o, none⟩ = some u := by rw [h.cell, ho]

/-- A copy of zs: nil, or a block from lo on that is known whole. -/
def CSl (k : IntKind) (e : TypeId) (lo : Nat) (w : World) (v : Value) (zs : List Int) : Prop :=
  (v = .slice none 0 0 ∧ zs = []) ∨ ∃ g, lo ≤ g ∧ v = .slice (some ⟨g, 0, none⟩) zs.length zs.length ∧ Rw w g e (zs.map (.int k))
theorem CSl.ksl {k : IntKind} {e : TypeId} {lo : Nat} {w : World} {v : Value} {zs : List Int} (h : CSl k e lo w v zs) (hm : zs.length ≤ maxLen) : KSl k w v zs := by
  rcases h with ⟨rfl, rfl⟩ | ⟨g, _, rfl, hr⟩
  · exact KSl.nil _ _
  · exact hr.ksl hm _
theorem CSl.kept {k : IntKind} {e : TypeId} {lo : Nat} {M : Nat → Prop} {w w' : World} {v : Value} {zs : List Int} (h : CSl k e lo w v zs) (hk : Kept M w w') (hm : ∀ b, lo ≤ b → ¬ M b) : CSl k e lo w' v zs := by
  rcases h with h | ⟨g, h1, h2, hr⟩
  · exact .inl h
  · exact .inr ⟨g, h1, h2, hr.kept hk (hm g h1)⟩
theorem CSl.lower {k : IntKind} {e : TypeId} {lo lo' : Nat} {w : World} {v : Value} {zs : List Int} (h : CSl k e lo w v zs) (hl : lo' ≤ lo) : CSl k e lo' w v zs := by
  rcases h with h | ⟨g, h1, h2, hr⟩
  · exact .inl h
  · exact .inr ⟨g, by omega, h2, hr⟩
theorem CSl.later {k : IntKind} {e : TypeId} {lo : Nat} {w w' : World} {v : Value} {zs : List Int} (h : CSl k e lo w v zs) (hb : Below w.heap.size w w') : CSl k e lo w' v zs :=
  h.kept ((Kept.refl (fun _ => False) w).of_below hb) (fun _ _ h => h)

/-- A cell of another block than the row that was appended to is as it was. -/
theorem cell_grown {w w0 x : World} {ob : Option Nat} {b o : Nat} {v : Value} (h : w.cell? ⟨b, o, none⟩ = some v) (hb : Below w.heap.size w w0) (hg : w0.grownBy x ob) (hne : ob ≠ some b) : x.cell? ⟨b, o, none⟩ = some v := by
  have hlt := cell_at h
  rw [hg.cell_far ⟨b, o, none⟩ (Nat.lt_of_lt_of_le hlt hb.size) (Ne.symm hne)]
  exact cell_later hb h
theorem frozen_grown {w w0 x : World} {ob : Option Nat} {b o : Nat} (hlt : b < w.heap.size) (h : w.frozen? ⟨b, o, none⟩ = false) (hb : Below w.heap.size w w0) (hg : w0.grownBy x ob) (hne : ob ≠ some b) : x.frozen? ⟨b, o, none⟩ = false := by
  rw [hg.frozen_far ⟨b, o, none⟩ (Nat.lt_of_lt_of_le hlt hb.size) (Ne.symm hne)]
  rw [(bcell hb).2 b o hlt]; exact h
theorem below_laid (w : World) (o : Obj) : Below w.heap.size w (w.alloc o) := (Below.refl _ _).alloc (Nat.le_refl _) o
theorem below_laid_drew (w : World) (o : Obj) : Below w.heap.size w (w.alloc o).drew := (below_laid w o).drew

theorem wrap_i8_in {n : Int} (h0 : -128 ≤ n) (h1 : n ≤ 127) : IntKind.i8.wrap n = n := by
  unfold IntKind.wrap
  simp [IntKind.signed, IntKind.bits]
  split <;> omega
theorem wrap_i32_in {n : Int} (h0 : -2147483648 ≤ n) (h1 : n ≤ 2147483647) : IntKind.i32.wrap n = n := by rw [IntKind.wrap_i32]; omega
end Go.Proofs.Qxb6605292a
