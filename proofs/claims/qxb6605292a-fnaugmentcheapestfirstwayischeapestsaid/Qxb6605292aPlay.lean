/-
  A finder that is being played: what stays through openings and searches.
-/
import Derived.Test.Qxb6605292aAug0
import Derived.Test.Qxb6605292aNwL
import Derived.Test.Qxb6605292aBnd
namespace Go.Proofs.Qxb6605292a
open Go.RowKit

/-- Rooms of a network fresh or opened: reverses have none. -/
structure Rz (l : List Arc) : Prop where
  lo : ∀ a, 0 ≤ roomAt l a
  hi : ∀ a, roomAt l a ≤ 1
  odd : ∀ a, a % 2 = 1 → roomAt l a = 0
theorem Rz.rm {l : List Arc} (h : Rz l) : Rm l := by
  refine ⟨h.lo, fun a => ?_⟩
  have h1 := h.hi a
  have h2 := h.hi (twin a)
  by_cases e : a % 2 = 1
  · have := h.odd a e; omega
  · have := h.odd (twin a) (by unfold twin; split <;> omega); omega
theorem Rz.open {l : List Arc} (h : Rz l) {a : Nat} (he : a % 2 = 0) : Rz (setRm l a 1) := by
  have key : ∀ b, roomAt (setRm l a 1) b = roomAt l b ∨ (b = a ∧ roomAt (setRm l a 1) b = 1) := by
    intro b
    by_cases e : a = b
    · subst e
      by_cases hl : a < l.length
      · exact .inr ⟨rfl, setRm_same _ _ _ hl⟩
      · left
        unfold roomAt setRm
        rw [List.getElem?_modify]
        simp [List.getElem?_eq_none (Nat.le_of_not_lt hl)]
    · exact .inl (setRm_ne _ _ e)
  refine ⟨fun b => ?_, fun b => ?_, fun b hb => ?_⟩
  · rcases key b with e | ⟨_, e⟩
    · rw [e]; exact h.lo b
    · rw [e]; omega
  · rcases key b with e | ⟨_, e⟩
    · rw [e]; exact h.hi b
    · rw [e]; omega
  · rcases key b with e | ⟨e1, e⟩
    · rw [e]; exact h.odd b hb
    · omega
theorem fulls_ok (out : List Bool) (reach : Nat → List Int) (n : Nat) : ∀ p ∈ finPairs out reach n, p.full = 0 ∨ p.full = 1 := by
  intro p hp
  unfold finPairs at hp
  rcases List.mem_append.1 hp with h | h
  · unfold linkPairs at h
    obtain ⟨v, _, h⟩ := List.mem_flatMap.1 h
    unfold genOf at h
    split at h
    · simp at h
    · rcases List.mem_cons.1 h with rfl | h
      · exact .inr rfl
      · unfold linkOf at h
        obtain ⟨z, _, rfl⟩ := List.mem_map.1 h
        exact .inr rfl
  · unfold srcPairs at h
    obtain ⟨v, _, h⟩ := List.mem_flatMap.1 h
    unfold srcOf at h
    split at h
    · simp at h
    · rw [List.mem_singleton] at h
      subst h
      exact .inl rfl
theorem rz_net (V : Nat) (ps : List Pr) (hf : ∀ p ∈ ps, p.full = 0 ∨ p.full = 1) : Rz (netOf V ps).2 := by
  have key : ∀ a, roomAt (netOf V ps).2 a = 0 ∨ (roomAt (netOf V ps).2 a = 1 ∧ a % 2 = 0) := by
    intro a
    by_cases ha : a < 2 * ps.length
    · obtain ⟨h1, h2⟩ := netOf_even V ps (k := a / 2) (by omega)
      by_cases e : a % 2 = 0
      · have : 2 * (a / 2) = a := by omega
        rw [this] at h1
        have hr : roomAt (netOf V ps).2 a = (ps[a / 2]'(by omega)).full := by unfold roomAt; rw [h1]
        rcases hf _ (List.getElem_mem (l := ps) (n := a / 2) (by omega)) with h | h
        · exact .inl (by rw [hr, h])
        · exact .inr ⟨by rw [hr, h], e⟩
      · have : 2 * (a / 2) + 1 = a := by omega
        rw [this] at h2
        exact .inl (by unfold roomAt; rw [h2])
    · left
      unfold roomAt
      rw [List.getElem?_eq_none (by rw [netOf_arcs]; omega)]
  refine ⟨fun a => ?_, fun a => ?_, fun a ha => ?_⟩
  · rcases key a with h | h <;> omega
  · rcases key a with h | h <;> omega
  · rcases key a with h | h <;> omega

/-- What stays: heads, rows and sources; the walk's count. -/
structure Pl (s0 s : FV) (k : Nat) : Prop where
  G : s.G = s0.G
  n : s.n = s0.n
  F : s.F = s0.F
  nb : s.nb = s0.nb
  nodes : s.nodes = s0.nodes
  source : s.source = s0.source
  len : s.arcs.length = s0.arcs.length
  nw : Nw s.n s.arcs s.nodes s.source
  w0 : 0 ≤ s.walk
  w1 : s.walk ≤ k
  sn : SnB s.walk s.seen
  tl : s.touched.length ≤ k * 1100
theorem Pl.open {s0 s : FV} {k a : Nat} (h : Pl s0 s k) : Pl s0 (s.setRoom a 1) k :=
  ⟨h.G, h.n, h.F, h.nb, h.nodes, h.source, by show (setRm _ _ _).length = _; rw [setRm_len]; exact h.len, h.nw.setRm _ _, h.w0, h.w1, h.sn, h.tl⟩
theorem Pl.aug {s0 s s' : FV} {k sink : Nat} {ok : Bool} (h : Pl s0 s k) (hn : s.n ≤ 256) (hr : Rm s.arcs) (hp : AugP s sink s' ok) : Pl s0 s' (k + 1) ∧ Rm s'.arcs := by
  obtain ⟨sn, vi, vq, q, par, hsn, hp⟩ := hp
  have h0 := h.w0
  have h1 := h.w1
  have h2 := h.tl
  rcases hp with ⟨_, rfl, _, _⟩ | ⟨_, hf, vt, ns, ar, rfl, hw⟩
  · exact ⟨⟨h.G, h.n, h.F, h.nb, h.nodes, h.source, h.len, h.nw, by show 0 ≤ s.walk + 1; omega, by show s.walk + 1 ≤ ((k + 1 : Nat) : Int); omega, hsn, Nat.le_trans h2 (Nat.mul_le_mul_right 1100 (Nat.le_succ k))⟩, hr⟩
  · have hl : ar.length ≤ 2 * s.n + 1 := by
      obtain ⟨sn0, vi0, f, p, v, a, b, hb, _, _, _, e, _⟩ := hf
      exact hw.lt_len (by rw [e, List.length_set, List.length_set]; exact hb.vil)
    refine ⟨⟨h.G, h.n, h.F, h.nb, h.nodes, h.source, ?_, h.nw.pushAll ar, by show 0 ≤ s.walk + 1; omega, by show s.walk + 1 ≤ ((k + 1 : Nat) : Int); omega, hsn, ?_⟩, hw.rmAll hr h.nw.even⟩
    · show (pushAll s.arcs ar).length = _
      rw [pushAll_len]; exact h.len
    · show (s.touched ++ _).length ≤ _
      rw [List.length_append, touch_len, Nat.add_mul]; omega
/-- The finder in play, since (w, T). -/
def Play (w : World) (T : Nat → Nat) (lk : Bool) (rows : List (List Int)) (P : FV → Prop) (wr : World) : Prop :=
  ∃ T' s, Gs wr T' s lk rows ∧ Step finT w T wr T' ∧ P s
theorem aug_fin {t : Nat} (h : augT t) : finT t := by intro e; subst e; rcases h with h | h | h | h | h | h <;> omega
theorem augT0 : ¬ augT 0 := fun h => aug_fin h rfl
end Go.Proofs.Qxb6605292a
