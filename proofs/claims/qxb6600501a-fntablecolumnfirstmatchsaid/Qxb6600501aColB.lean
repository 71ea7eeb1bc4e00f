/-
  Rows of columns, nine cells each; makeColsPgB1 (f15).
-/
import Derived.Test.Qxb6600501aColA
namespace Go.Proofs.Qxb6600501a
open Go.RowKit

theorem rangeAt_later {w w' : World} {b o : Nat} {cs : List Value} (h : w.rangeAt b o cs) (hb : Below w.heap.size w w') : w'.rangeAt b o cs := fun j v hv => cell_later hb (h j v hv)
theorem there_later {w w' : World} {b o n : Nat} (h : w.there b o n) (hb : Below w.heap.size w w') : w'.there b o n := fun j hj => by
  obtain ⟨h1, h2⟩ := h j hj
  obtain ⟨u, hu⟩ := Option.isSome_iff_exists.1 h1
  exact ⟨by rw [cell_later hb hu]; rfl, by rw [(bcell hb).2 b (o + j) (cell_at hu)]; exact h2⟩
theorem there_part {w : World} {b n o m : Nat} (h : w.there b 0 n) (ho : o + m ≤ n) : w.there b o m := fun j hj => by
  have := h (o + j) (by omega)
  rw [Nat.zero_add] at this
  exact this
theorem below_setCells {H b : Nat} (hb : H ≤ b) : ∀ (vs : List Value) (o : Nat) {w w1 : World}, Below H w w1 → Below H w (w1.setCells b o vs)
  | [], _, _, _, h => h
  | v :: r, o, w, w1, h => by
    rw [World.setCells]
    exact below_setCells hb r (o + 1) (h.setCell (p := ⟨b, o, none⟩) hb v)
/-- The columns cs lie in block g from its head on. -/
def ColsAt (w : World) (g : Nat) (cs : List Col) : Prop := ∀ (i : Nat) (c : Col), cs[i]? = some c → w.rangeAt g (i * 9) c.cells
theorem ColsAt.later {w w' : World} {g : Nat} {cs : List Col} (h : ColsAt w g cs) (hb : Below w.heap.size w w') : ColsAt w' g cs := fun i c hc => rangeAt_later (h i c hc) hb
theorem ColsAt.snoc {w : World} {g n : Nat} {cs : List Col} (h : ColsAt w g cs) (ht : w.there g 0 (n * 9)) (hk : cs.length < n) (c : Col) : ColsAt (w.setCells g (cs.length * 9) c.cells) g (cs ++ [c]) := by
  intro i d hd
  by_cases hi : i < cs.length
  · rw [List.getElem?_append_left hi] at hd
    exact World.rangeAt_setCells_apart (h i d hd) g _ _ (.inr (.inl (by show i * 9 + 9 ≤ _; omega)))
  · have hl := (List.getElem?_eq_some_iff.1 hd).1
    rw [List.length_append, List.length_singleton] at hl
    have e : i = cs.length := by omega
    subst e
    rw [List.getElem?_append_right (Nat.le_refl _), Nat.sub_self] at hd
    have : c = d := by simpa using hd
    subst this
    exact World.rangeAt_setCells_same _ _ _ _ (there_part ht (by show _ + 9 ≤ _; omega))
theorem Col.one (c : Col) : c.cells.toArray.all (·.oneCell') = true := by
  obtain ⟨a, b, c, d, e, f, g, h, i⟩ := c
  exact all_oneCell_toArray (fun v hv => by simp [Col.cells] at hv; rcases hv with h | h | h | h | h | h | h | h | h <;> subst h <;> rfl)
/-- 'make([]T, n)', nine cells an element: a new block that may be written. -/
theorem wpList_mk9 {P : Program} (w : World) {ops : Array Oper} {rest : List Oper} {o : Oper} {a : Act} {Q : Exit → Act → World → Prop}
    (hg : o.guard = none) (l c : Operand) (t : TypeId) (hop : o.op = Op.makeSlice t l c)
    (e : TypeId) (i : TypeInfo) (z : Value) (by_ : Nat) (h1 : P.underlying t = some (.slice e)) (h2 : P.info? e = some i) (h3 : i.zero = some z) (h4 : i.size = 9) (h5 : i.bytes = by_)
    (kl kc : IntKind) (L C : Int) (n : Nat) (hl : a.eval l = .int kl L) (hc : a.eval c = .int kc C) (hL : L = (n : Int)) (hC : C = (n : Int)) (b2 : by_ * n ≤ 281474976710656) (b3 : n ≤ maxLen)
    (H : Nat) (hH : w.heap.size = H)
    (hK : ∀ w', w'.there H 0 (n * 9) → Below H w w' → w'.heap.size = H + 1 → wpList P ops Q rest (a.put o.dst (.slice (some ⟨H, 0, none⟩) n n)) w') :
    wpList P ops Q (o :: rest) a w := by
  refine wpList_plain hg fun K hK' => ?_
  subst hL hC hH h5
  have h63' : (n : Int) ≤ 9223372036854775807 := by unfold maxLen at b3; omega
  have hb' : (i.bytes : Int) * (n : Int) ≤ 281474976710656 := by
    have h : ((i.bytes * n : Nat) : Int) ≤ 281474976710656 := by omega
    rwa [Int.natCast_mul] at h
  have hrun := run_make (P := P) w t e i z h1 h2 h3 kl kc n n (by omega) (Int.le_refl _) hb' h63'
  simp only [Int.toNat_natCast, h4] at hrun
  unfold Oper.wp
  simp [execOp, hop, hl, hc, hrun, Result.andThen]
  refine hK' _ _ (hK _ ?_ ((Below.refl _ _).alloc (Nat.le_refl _) _) (by simp))
  intro j hj
  have hr : Rw (w.alloc (.cells (madeCells z.cells (n * 9)) e)) w.heap.size e (madeCells z.cells (n * 9)).toList := by
    have := Rw.new w e (madeCells z.cells (n * 9)).toList
    rw [Array.toArray_toList] at this
    exact this
  refine ⟨?_, hr.frozen _⟩
  rw [hr.cell, Nat.zero_add, List.getElem?_eq_getElem (by rw [Array.length_toList, size_madeCells]; exact hj)]
  rfl
theorem Try.info32 : (Try.prog.info? 32).map (fun i => (i.zero, i.size, i.bytes)) = some (some (.agg #[.string ⟨#[]⟩, .string ⟨#[]⟩, .bool false, .bool false, .string ⟨#[]⟩, .string ⟨#[]⟩, .string ⟨#[]⟩, .string ⟨#[]⟩, .string ⟨#[]⟩]), 9, 120) := by kernel_rfl
theorem Try.info44 : (Try.prog.info? 44).map (fun i => (i.zero, i.size, i.bytes)) = some (some (.agg #[.string ⟨#[]⟩, .string ⟨#[]⟩, .bool false, .bool false, .string ⟨#[]⟩, .string ⟨#[]⟩, .string ⟨#[]⟩, .string ⟨#[]⟩, .string ⟨#[]⟩]), 9, 120) := by kernel_rfl
theorem Try.size32 : (Try.prog.info? 32).map (·.size) = some 9 := by kernel_rfl
theorem Try.size44 : (Try.prog.info? 44).map (·.size) = some 9 := by kernel_rfl

def MakeR (w : World) (ns : List ByteArray) (e : Ending) (w' : World) : Prop :=
  ∃ g cs, e = .returned (.slice (some ⟨g, 0, none⟩) ns.length ns.length) ∧ cs.map Col.a = ns ∧ ColsAt w' g cs ∧ w.heap.size ≤ g ∧ g < w'.heap.size ∧ Below w.heap.size w w'
def MkI (w : World) (H n : Nat) (ns : List ByteArray) (k : Nat) (wr : World) : Prop := ∃ cs, cs.length = k ∧ cs.map Col.a = ns.take k ∧ ColsAt wr H cs ∧ wr.there H 0 (n * 9) ∧ Below H w wr
theorem MkI.later {w : World} {H n : Nat} {ns : List ByteArray} {k : Nat} {wr w' : World} (h : MkI w H n ns k wr) (hH : H ≤ wr.heap.size) (hb : Below wr.heap.size wr w') : MkI w H n ns k w' := by
  obtain ⟨cs, h1, h2, h3, h4, h5⟩ := h
  exact ⟨cs, h1, h2, h3.later hb, there_later h4 hb, h5.trans (hb.mono hH)⟩

set_option maxRecDepth 100000 in
set_option maxHeartbeats 800000 in
theorem make_any (v : Value) (ns : List ByteArray) (w : World) (hv : SSl w v ns) (hl : ns.length ≤ 65536) :
    Calls Try.prog 15 #[v, .int .i64 0] w fun e w' => MakeR w ns e w' := by
  obtain ⟨i0, hi0, hz0, hz1, hz2⟩ := info_parts Try.info32
  have HV : Hid (SSl w v ns) := hv
  obtain ⟨ao, cap, rfl, hm, hnil, hcell⟩ := hv
  clear hnil hcell hm
  obtain ⟨H, hH⟩ := size_name w
  have HH : Hid (w.heap.size = H) := hH
  clear hH
  go_enter Try.func15, Try.ntmps15
  go_wp2_with (at_make; refine wpList_mk9 _ rfl _ _ _ rfl 32 i0 _ 120 Try.underlying29 hi0 hz0 hz1 hz2 _ _ _ _ ns.length rfl rfl rfl rfl (by omega) (by unfold maxLen; omega) H HH.out ?_; intro w1 hr hb hsz)
  have HI : Hid (MkI w H ns.length ns 0 w1 ∧ H < w1.heap.size) := ⟨⟨[], rfl, rfl, fun i c hc => by simp at hc, hr, hb⟩, by omega⟩
  clear hr hb hsz
  go_wp2
  go_loopw [6] (fun c wr => ∃ k : Nat, k ≤ ns.length ∧ c = .int .i64 k ∧ Hid (MkI w H ns.length ns k wr ∧ H < wr.heap.size)) (fun c _ => ns.length - (intOf c).toNat)
  case atStart => exact ⟨0, Nat.zero_le _, rfl, HI⟩
  case round =>
    obtain ⟨k, hk, rfl, HR⟩ := hrel
    clear HI
    by_cases hlt : k < ns.length
    · obtain ⟨_, _, e0, _, _, hc0⟩ := HV.out
      cases e0
      obtain ⟨b, off, rfl, hc⟩ := hc0 k hlt
      have HIT : Hid (Calls Try.prog 19 #[.int .i64 k] wr fun r w' => ShortR wr r w') := itoa_any wr k (by omega)
      have HC : Hid (w.cell? ⟨b, off + k, none⟩ = some (.string ns[k])) := hc
      clear hc hc0
      go_wp2_with fail
      refine HIT.out.mono ?_
      rintro e w2 ⟨m, rfl, hm, hb2⟩
      have HR2 : Hid (MkI w H ns.length ns k w2 ∧ H < w2.heap.size) := ⟨HR.out.1.later (Nat.le_of_lt HR.out.2) hb2, Nat.lt_of_lt_of_le HR.out.2 hb2.size⟩
      have c2 : w2.cell? ⟨b, off + k, none⟩ = some (.string ns[k]) := by
        obtain ⟨cs, _, _, _, _, h5⟩ := HR2.out.1
        exact cell_later (by rw [HH.out]; exact h5) HC.out
      have hT : w2.there H (k * 9) 9 := by
        obtain ⟨cs, _, _, _, h4, _⟩ := HR2.out.1
        exact there_part h4 (by omega)
      have HS : Hid (∀ c : Col, c.a = ns[k] → MkI w H ns.length ns (k + 1) (w2.setCells H (k * 9) c.cells) ∧ H < (w2.setCells H (k * 9) c.cells).heap.size) := by
        intro c hca
        obtain ⟨⟨cs, h1, h2, h3, h4, h5⟩, h6⟩ := HR2.out
        subst h1
        have hb6 := below_setCells (H := H) (b := H) (Nat.le_refl _) c.cells (cs.length * 9) h5
        refine ⟨⟨cs ++ [c], by simp, ?_, h3.snoc h4 hlt c, World.there_setCells h4 _ _ _, hb6⟩, Nat.lt_of_lt_of_le h6 (below_setCells (H := 0) (Nat.zero_le _) _ _ (Below.refl 0 w2)).size⟩
        rw [List.map_append, h2, List.take_add_one, List.getElem?_eq_getElem hlt]
        simp [hca]
      clear hb2 HR HIT HC HR2
      go_wp2_with (refine wpList_store_mid rfl 32 _ _ rfl H (k * 9) _ rfl rfl ?_ ?_ ?_ ?_; exact hT; exact Try.size32; exact Col.one ⟨_, _, _, _, _, _, _, _, _⟩)
      go_roundw
      case rel => exact ⟨k + 1, by omega, by go_num, HS.out ⟨ns[k], _, _, _, _, _, _, _, _⟩ rfl⟩
      case measure => simp [intOf]; omega
    · have HE : Hid (MakeR w ns (.returned (.slice (some ⟨H, 0, none⟩) ns.length ns.length)) wr) := by
        obtain ⟨⟨cs, h1, h2, h3, _, h5⟩, h6⟩ := HR.out
        have hke : k = ns.length := by omega
        subst hke
        rw [List.take_length] at h2
        exact ⟨H, cs, rfl, h2, h3, by rw [HH.out]; exact Nat.le_refl _, h6, by rw [HH.out]; exact h5⟩
      clear HR
      go_wp2
      go_ret
      exact HE.out
end Go.Proofs.Qxb6600501a
