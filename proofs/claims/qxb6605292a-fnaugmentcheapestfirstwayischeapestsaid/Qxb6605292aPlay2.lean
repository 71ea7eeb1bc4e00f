/-
  The finder in play: ZZOpenSource (f20), ZZAugment (f21), ZZSetBlocked (f22), since (w, T).
-/
import Derived.Test.Qxb6605292aAug
import Derived.Test.Qxb6605292aPlay
namespace Go.Proofs.Qxb6605292a
open Go.RowKit

/-- ZZAugment passes on. -/
theorem zzaugment_any {F : Nat} {k : Int} {w : World} {R : Ending → World → Prop} (h : Calls Try.prog 50 #[.pointer (some ⟨F, 0, none⟩), .int .i64 k] w fun e w' => (∃ b, e = .returned (.bool b)) ∧ R e w') :
    Calls Try.prog 21 #[.pointer (some ⟨F, 0, none⟩), .int .i64 k] w R := by
  have H : Hid (Calls Try.prog 50 #[.pointer (some ⟨F, 0, none⟩), .int .i64 k] w fun e w' => (∃ b, e = .returned (.bool b)) ∧ R e w') := h
  clear h
  go_enter Try.func21, Try.ntmps21
  go_wp2_with fail
  refine H.out.mono ?_
  rintro e w' ⟨⟨b, rfl⟩, hr⟩
  have HR : Hid (R (.returned (.bool b)) w') := hr
  clear hr H
  go_wp2
  exact HR.out
section
variable {w wr : World} {T : Nat → Nat} {lk : Bool} {rows : List (List Int)} {P : FV → Prop}
theorem Play.later (h : Play w T lk rows P wr) {w' : World} (hb : Below wr.heap.size wr w') : Play w T lk rows P w' := by
  obtain ⟨T', s, hg, st, hp⟩ := h
  exact ⟨T', s, hg.step (Step.later (Step.refl finT wr T') hb) finT0 (hg.fin.later hb) rfl rfl rfl, st.later hb, hp⟩
theorem Play.imp (h : Play w T lk rows P wr) {Q : FV → Prop} (hq : ∀ s, P s → Q s) : Play w T lk rows Q wr := by
  obtain ⟨T', s, hg, st, hp⟩ := h
  exact ⟨T', s, hg, st, hq s hp⟩
theorem Play.row (h : Play w T lk rows P wr) {b : Nat} {e : TypeId} {l : List Value} (hr : Rw w b e l) (h0 : T b = 0) : Rw wr b e l := by
  obtain ⟨T', s, hg, st, hp⟩ := h
  exact hr.step st (fun hh => hh h0)
theorem Play.below (h : Play w T lk rows P wr) {B : Nat} (hB : B ≤ w.heap.size) (hl : ∀ b, b < B → T b = 0) : Below B w wr := by
  obtain ⟨T', s, hg, st, hp⟩ := h
  exact st.below hB (fun i hi hh => hh (hl i hi))
/-- One step. -/
theorem Play.step {s' : FV} {T' T2 : Nat → Nat} {s : FV} {w2 : World} {Q : FV → Prop} (hg : Gs wr T' s lk rows) (st : Step finT w T wr T') (hf : FinAt w2 T2 s') (st2 : Step augT wr T' w2 T2) (e1 : s'.G = s.G) (e2 : s'.nb = s.nb) (e3 : s'.n = s.n) (hq : Q s') : Play w T lk rows Q w2 :=
  ⟨T2, s', hg.step st2 augT0 hf e1 e2 e3, st.trans (st2.mono fun _ h => aug_fin h), hq⟩
def OpenedR (w : World) (T : Nat → Nat) (lk : Bool) (rows : List (List Int)) (P : FV → Prop) (e : Ending) (w' : World) : Prop := e = .returned (.tuple #[]) ∧ Play w T lk rows P w'
theorem Play.open {s0 : FV} (h : Play w T lk rows (fun s => Pl s0 s 0 ∧ Rz s.arcs) wr) {v a : Nat} (hv : v < s0.n) (hs : s0.source[v]? = some (a : Int)) (ha : a < s0.arcs.length) (he : a % 2 = 0) :
    Calls Try.prog 20 #[.pointer (some ⟨s0.F, 0, none⟩), .int .i64 v] wr fun e w' => OpenedR w T lk rows (fun s => Pl s0 s 0 ∧ Rz s.arcs) e w' := by
  obtain ⟨T', s, hg, st, hp, hz⟩ := h
  have c := openSource_any hg.fin v a (by rw [hp.n]; exact hv) (by rw [hp.source]; exact hs) (by rw [hp.len]; exact ha)
  rw [hp.F] at c
  refine c.mono ?_
  rintro e w' ⟨rfl, hf, st2⟩
  exact ⟨rfl, Play.step hg st hf st2 rfl rfl rfl ⟨hp.open, hz.open he⟩⟩
def AugdR (w : World) (T : Nat → Nat) (lk : Bool) (rows : List (List Int)) (P : FV → Prop) (e : Ending) (w' : World) : Prop := ∃ b, e = .returned (.bool b) ∧ Play w T lk rows P w'
theorem Play.aug {s0 : FV} {k sink : Nat} (h : Play w T lk rows (fun s => Pl s0 s k ∧ Rm s.arcs) wr) (hn : s0.n ≤ 256) (hs : sink < 2 * s0.n) (ha : 0 < s0.arcs.length) (hk : k ≤ 500) :
    Calls Try.prog 21 #[.pointer (some ⟨s0.F, 0, none⟩), .int .i64 sink] wr fun e w' => AugdR w T lk rows (fun s => Pl s0 s (k + 1) ∧ Rm s.arcs) e w' := by
  obtain ⟨T', s, hg, st, hp, hz⟩ := h
  have h1 := hp.w1
  have h2 := hp.tl
  have c := augment_any hg.fin sink (by rw [hp.n]; exact hn) (by rw [hp.n]; exact hs) hp.nw hz hp.w0 (by omega) hp.sn (by omega) (by rw [hp.len]; exact ha)
  rw [hp.F] at c
  refine zzaugment_any (c.mono ?_)
  rintro e w' ⟨ok, T2, s', rfl, hf, st2, hq⟩
  obtain ⟨q1, q2⟩ := hp.aug (by rw [hp.n]; exact hn) hz hq
  exact ⟨⟨ok, rfl⟩, ok, rfl, Play.step hg st hf st2 (by rw [q1.G, hp.G]) (by rw [q1.nb, hp.nb]) (by rw [q1.n, hp.n]) ⟨q1, q2⟩⟩
theorem Play.block {s0 : FV} (h : Play w T lk rows (fun s => s.G = s0.G ∧ s.n = s0.n ∧ s.F = s0.F) wr) (ao : Option Addr) (n c : Nat) :
    Calls Try.prog 22 #[.pointer (some ⟨s0.F, 0, none⟩), .slice ao n c] wr fun e w' => OpenedR w T lk rows (fun s => s.G = s0.G ∧ s.n = s0.n ∧ s.F = s0.F) e w' := by
  obtain ⟨T', s, hg, st, h1, h2, h3⟩ := h
  have k := setBlocked_any hg.fin ao n c
  rw [h3] at k
  refine k.mono ?_
  rintro e w' ⟨rfl, hf, st2⟩
  exact ⟨rfl, Play.step hg st hf st2 rfl rfl rfl ⟨h1, h2, h3⟩⟩
end
end Go.Proofs.Qxb6605292a
