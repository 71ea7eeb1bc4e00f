/-
  The network that finder lays may be searched.
-/
import Derived.Test.Qxb6605292aBfs
import Derived.Test.Qxb6605292aWant
namespace Go.Proofs.Qxb6605292a

theorem finPairs_in (O : List Bool) (reach : Nat → List Int) (n : Nat) : ∀ p ∈ finPairs O reach n, (∀ u, p.a = 2 * u → u < n → isOut O u = false) ∧ (∀ u, p.b = 2 * u → u < n → isOut O u = false) := by
  intro p hp
  unfold finPairs at hp
  rcases List.mem_append.1 hp with h | h
  · unfold linkPairs at h
    obtain ⟨v, _, h⟩ := List.mem_flatMap.1 h
    unfold genOf at h
    split at h
    · simp at h
    · rename_i hov
      have hov' : isOut O v = false := by simpa using hov
      rcases List.mem_cons.1 h with rfl | h
      · refine ⟨fun u hu _ => ?_, fun u hu _ => by simp at hu; omega⟩
        have : u = v := by simp at hu; omega
        rw [this]; exact hov'
      · unfold linkOf at h
        obtain ⟨z, hz, rfl⟩ := List.mem_map.1 h
        have hz' := (List.mem_filter.1 hz).2
        refine ⟨fun u hu _ => by simp at hu; omega, fun u hu _ => ?_⟩
        have : z.toNat = u := by simp at hu; omega
        rw [← this]
        simp at hz'
        exact hz'.2
  · unfold srcPairs at h
    obtain ⟨v, _, h⟩ := List.mem_flatMap.1 h
    unfold srcOf at h
    split at h
    · simp at h
    · rename_i hov
      have hov' : isOut O v = false := by simpa using hov
      rw [List.mem_singleton] at h
      subst h
      refine ⟨fun u hu hn => by simp at hu; omega, fun u hu _ => ?_⟩
      have : u = v := by simp at hu; omega
      rw [this]; exact hov'
theorem twin_eq (a : Nat) : twin a = if a % 2 = 0 then a + 1 else a - 1 := rfl
/-- The head of arc a. -/
theorem toAt_net (V : Nat) (ps : List Pr) {a : Nat} (ha : a < 2 * ps.length) : toAt (netOf V ps).2 a = (tailOf ps (twin a) : Int) ∧ toAt (netOf V ps).2 (twin a) = (tailOf ps a : Int) := by
  have key : ∀ a, a < 2 * ps.length → toAt (netOf V ps).2 (twin a) = (tailOf ps a : Int) := by
    intro a ha
    obtain ⟨r, f, c, h⟩ := netOf_twin V ps ha
    unfold toAt
    rw [twin_eq, h]
  refine ⟨?_, key a ha⟩
  have := key (twin a) (twin_lt ha)
  rw [twin_twin] at this
  exact this
theorem nw_of_net (n : Nat) (O : List Bool) (reach : Nat → List Int) (source : List Int) (hr : ∀ v, v < n → ∀ z ∈ reach v, 0 ≤ z ∧ z < n) (hb : (finPairs O reach n).length ≤ 400000)
    (hsrc : ∀ v, v < n → isOut O v = false → source[v]? = some ((2 * ((linkPairs O reach n).length + (srcPairs O n v).length) : Nat) : Int)) :
    Nw n (netOf (2 * n + 1) (finPairs O reach n)).2 (netOf (2 * n + 1) (finPairs O reach n)).1 source := by
  have hok := finPairs_ok O reach n hr
  have hin := finPairs_in O reach n
  have hlen := netOf_arcs (2 * n + 1) (finPairs O reach n)
  have hrow : ∀ x, x < 2 * n + 1 → (netOf (2 * n + 1) (finPairs O reach n)).1.getD x [] = rowL (finPairs O reach n) x := fun x hx => netOf_rows (2 * n + 1) _ (fun p hp => ⟨(hok p hp).a, (hok p hp).b⟩) x hx
  have hfs := fun v (h : v < n) (ho : isOut O v = false) => finPairs_src O reach n h ho
  obtain ⟨ps, hps⟩ : ∃ ps, finPairs O reach n = ps := ⟨_, rfl⟩
  rw [hps] at hb hok hin hlen hrow hfs ⊢
  clear hps
  refine ⟨by omega, by omega, ?_, ?_, ?_, ?_, ?_⟩
  · intro a ha
    exact ⟨_, (toAt_net _ ps (by omega)).1, tailOf_lt n ps hok (twin_lt (by omega))⟩
  · intro x hx j hj
    rw [hrow x hx] at hj ⊢
    obtain ⟨a, h1, h2, h3, _⟩ := seenL_step ps x j hj
    exact ⟨a, by simp [hj, h1], by omega, by rw [(toAt_net _ ps h2).2, h3]⟩
  · intro x hx
    have := netOf_row (2 * n + 1) ps x
    omega
  · intro a x ha hx
    rw [hlen] at ha
    have e := (toAt_net (2 * n + 1) ps ha).2
    rw [hx] at e
    have ex : x = tailOf ps a := by omega
    have hxV : x < 2 * n + 1 := by rw [ex]; exact tailOf_lt n ps hok ha
    rw [hrow x hxV]
    exact (rowL_mem ps x a).2 ⟨ha, ex.symm⟩
  · intro a u ha hu hun
    rw [hlen] at ha
    have e := (toAt_net (2 * n + 1) ps ha).1
    rw [hu] at e
    have et : tailOf ps (twin a) = 2 * u := by omega
    have hlt := twin_lt ha
    have ho : isOut O u = false := by
      unfold tailOf at et
      have hl : twin a / 2 < ps.length := by omega
      have eg : ps.getD (twin a / 2) ⟨0, 0, 0, 0⟩ = ps[twin a / 2] := by simp [hl]
      rw [eg] at et
      have hm := hin ps[twin a / 2] (List.getElem_mem hl)
      split at et
      · exact hm.1 u et hun
      · exact hm.2 u et hun
    have hs := hsrc u hun ho
    have hf := hfs u hun ho
    obtain ⟨q, hq⟩ : ∃ q, (linkPairs O reach n).length + (srcPairs O n u).length = q := ⟨_, rfl⟩
    rw [hq] at hs hf
    obtain ⟨hql, hqe⟩ := List.getElem?_eq_some_iff.1 hf
    have hev := netOf_even (2 * n + 1) ps hql
    rw [hqe] at hev
    refine ⟨2 * q, hs, by omega, ?_, ?_⟩
    · unfold toAt; rw [hev.1]
    · have : twin (2 * q) = 2 * q + 1 := by unfold twin; rw [if_pos (by omega)]
      rw [this]
      unfold toAt; rw [hev.2]
end Go.Proofs.Qxb6605292a
