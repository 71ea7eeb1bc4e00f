/-
  The search backwards from the sink, plainly: queue q, parents' places par, marks sn, arcs vi.
-/
import Derived.Test.Qxb6605292aPush
namespace Go.Proofs.Qxb6605292a

/-- The node that arc a leads to. -/
def toAt (l : List Arc) (a : Nat) : Int := match l[a]? with
  | some x => x.to
  | none => -1
theorem toAt_get {l : List Arc} {a : Nat} (h : a < l.length) : toAt l a = l[a].to := by unfold toAt; rw [List.getElem?_eq_getElem h]
theorem toAt_setRm (l : List Arc) (b : Nat) (r : Int) (a : Nat) : toAt (setRm l b r) a = toAt l a := by
  unfold toAt setRm
  rw [List.getElem?_modify]
  cases l[a]? with
  | none => rfl
  | some x => by_cases e : b = a <;> simp [e]
theorem toAt_pushAt (l : List Arc) (b a : Nat) : toAt (pushAt l b) a = toAt l a := by unfold pushAt; rw [toAt_setRm, toAt_setRm]

/-- A network that a search may walk: what it asks of heads, rows and sources (rooms apart). -/
structure Nw (n : Nat) (l : List Arc) (nodes : List (List Int)) (source : List Int) : Prop where
  even : l.length % 2 = 0
  small : l.length ≤ 1000000
  tos : ∀ a, a < l.length → ∃ y : Nat, toAt l a = (y : Int) ∧ y < 2 * n + 1
  row : ∀ x, x < 2 * n + 1 → ∀ j, j < (nodes.getD x []).length → ∃ a : Nat, (nodes.getD x []).getD j 0 = (a : Int) ∧ a < l.length ∧ toAt l (twin a) = (x : Int)
  rows : ∀ x, x < 2 * n + 1 → (nodes.getD x []).length ≤ 1000000
  all : ∀ (a x : Nat), a < l.length → toAt l (twin a) = (x : Int) → (a : Int) ∈ nodes.getD x []
  src : ∀ (a u : Nat), a < l.length → toAt l a = ((2 * u : Nat) : Int) → u < n → ∃ b : Nat, source[u]? = some (b : Int) ∧ b < l.length ∧ toAt l b = ((2 * u : Nat) : Int) ∧ toAt l (twin b) = ((2 * n : Nat) : Int)
theorem Nw.twin_lt {n : Nat} {l : List Arc} {nodes : List (List Int)} {source : List Int} (h : Nw n l nodes source) {a : Nat} (ha : a < l.length) : twin a < l.length := by
  have := h.even
  unfold twin
  split <;> omega
theorem Nw.setRm {n : Nat} {l : List Arc} {nodes : List (List Int)} {source : List Int} (h : Nw n l nodes source) (b : Nat) (r : Int) : Nw n (setRm l b r) nodes source := by
  refine ⟨?_, ?_, ?_, ?_, h.rows, ?_, ?_⟩
  · rw [setRm_len]; exact h.even
  · rw [setRm_len]; exact h.small
  · intro a ha; rw [setRm_len] at ha; rw [toAt_setRm]; exact h.tos a ha
  · intro x hx j hj
    obtain ⟨a, h1, h2, h3⟩ := h.row x hx j hj
    exact ⟨a, h1, by rw [setRm_len]; exact h2, by rw [toAt_setRm]; exact h3⟩
  · intro a x ha hx; rw [setRm_len] at ha; rw [toAt_setRm] at hx; exact h.all a x ha hx
  · intro a u ha hu hn
    rw [setRm_len] at ha
    rw [toAt_setRm] at hu
    obtain ⟨b, h1, h2, h3, h4⟩ := h.src a u ha hu hn
    exact ⟨b, h1, by rw [setRm_len]; exact h2, by rw [toAt_setRm]; exact h3, by rw [toAt_setRm]; exact h4⟩
theorem Nw.pushAt {n : Nat} {l : List Arc} {nodes : List (List Int)} {source : List Int} (h : Nw n l nodes source) (a : Nat) : Nw n (pushAt l a) nodes source := (h.setRm _ _).setRm _ _
/-- Rooms are 0 or 1, and of an arc and its twin one at most is 1. -/
structure Rm (l : List Arc) : Prop where
  lo : ∀ a, 0 ≤ roomAt l a
  sum : ∀ a, roomAt l a + roomAt l (twin a) ≤ 1
theorem Rm.hi {l : List Arc} (h : Rm l) (a : Nat) : roomAt l a ≤ 1 := by have := h.sum a; have := h.lo (twin a); omega

/-- What the search holds. -/
structure BI (n sink : Nat) (W : Int) (l : List Arc) (source sn vi : List Int) (q par : List Nat) : Prop where
  hd : q[0]? = some sink
  nd : q.Nodup
  lt : ∀ x ∈ q, x < 2 * n
  seen : ∀ x, x < 2 * n → (sn[x]? = some W ↔ x ∈ q)
  src : sn[2 * n]? ≠ some W
  snl : sn.length = 2 * n + 1
  vil : vi.length = 2 * n + 1
  plen : par.length = q.length
  tree : ∀ i x : Nat, 0 < i → q[i]? = some x → ∃ a p y : Nat, vi[x]? = some (a : Int) ∧ a < l.length ∧ par[i]? = some p ∧ p < i ∧ q[p]? = some y ∧ toAt l a = (y : Int) ∧ toAt l (twin a) = (x : Int) ∧ roomAt l a ≠ 0
  mono : ∀ i j p r : Nat, i ≤ j → par[i]? = some p → par[j]? = some r → p ≤ r
  shut : ∀ i u b : Nat, 0 < i → q[i]? = some (2 * u) → source[u]? = some (b : Int) → roomAt l b ≤ 0
/-- One more node is reached, from place h of the queue, by arc b. -/
theorem BI.add {n sink : Nat} {W : Int} {l : List Arc} {source sn vi : List Int} {q par : List Nat} (h : BI n sink W l source sn vi q par) {hh y v b : Nat} (hv : q[hh]? = some v) (hp : ∀ i p : Nat, par[i]? = some p → p ≤ hh)
    (hb : b < l.length) (hto : toAt l b = (v : Int)) (htw : toAt l (twin b) = (y : Int)) (hr : roomAt l b ≠ 0) (hy : y < 2 * n) (hns : sn[y]? ≠ some W)
    (hsh : ∀ u c : Nat, y = 2 * u → source[u]? = some (c : Int) → roomAt l c ≤ 0) :
    BI n sink W l source (sn.set y W) (vi.set y (b : Int)) (q ++ [y]) (par ++ [hh]) := by
  have hnq : y ∉ q := fun hq => hns ((h.seen y hy).2 hq)
  have hql : hh < q.length := (List.getElem?_eq_some_iff.1 hv).1
  have h0 : 0 < q.length := (List.getElem?_eq_some_iff.1 h.hd).1
  refine ⟨?_, ?_, ?_, ?_, ?_, by rw [List.length_set]; exact h.snl, by rw [List.length_set]; exact h.vil, by simp [h.plen], ?_, ?_, ?_⟩
  · rw [List.getElem?_append_left h0]; exact h.hd
  · rw [List.nodup_append]
    exact ⟨h.nd, by simp, fun a ha c hc => by rw [List.mem_singleton] at hc; subst hc; exact fun e => hnq (e ▸ ha)⟩
  · intro x hx
    rcases List.mem_append.1 hx with hx | hx
    · exact h.lt x hx
    · rw [List.mem_singleton] at hx; subst hx; exact hy
  · intro x hx
    by_cases e : y = x
    · subst e
      rw [List.getElem?_set_self (by rw [h.snl]; omega)]
      simp
    · rw [List.getElem?_set_ne e, h.seen x hx, List.mem_append, List.mem_singleton]
      exact ⟨.inl, fun hx => hx.resolve_right (fun hxy => e hxy.symm)⟩
  · rw [List.getElem?_set_ne (by omega)]; exact h.src
  · intro i x hi hx
    by_cases hil : i < q.length
    · rw [List.getElem?_append_left hil] at hx
      have hxq : x ∈ q := List.mem_of_getElem? hx
      have hne : y ≠ x := fun e => hnq (e ▸ hxq)
      obtain ⟨a, p, z, t1, t2, t3, t4, t5, t6, t7, t8⟩ := h.tree i x hi hx
      refine ⟨a, p, z, by rw [List.getElem?_set_ne hne]; exact t1, t2, by rw [List.getElem?_append_left (by rw [h.plen]; exact hil)]; exact t3, t4, by rw [List.getElem?_append_left (by omega)]; exact t5, t6, t7, t8⟩
    · have hie : i = q.length := by
        have := (List.getElem?_eq_some_iff.1 hx).1
        simp at this; omega
      subst hie
      rw [List.getElem?_append_right (Nat.le_refl _), Nat.sub_self] at hx
      have hxy : y = x := by simpa using hx
      subst hxy
      refine ⟨b, hh, v, by rw [List.getElem?_set_self (by rw [h.vil]; omega)], hb, by rw [← h.plen, List.getElem?_append_right (Nat.le_refl _), Nat.sub_self]; rfl, hql, by rw [List.getElem?_append_left hql]; exact hv, hto, htw, hr⟩
  · intro i j p r hij hpi hpj
    by_cases hjl : j < par.length
    · rw [List.getElem?_append_left (by omega)] at hpi
      rw [List.getElem?_append_left hjl] at hpj
      exact h.mono i j p r hij hpi hpj
    · have hje : j = par.length := by
        have := (List.getElem?_eq_some_iff.1 hpj).1
        simp at this; omega
      subst hje
      rw [List.getElem?_append_right (Nat.le_refl _), Nat.sub_self] at hpj
      have hr' : hh = r := by simpa using hpj
      subst hr'
      by_cases hil : i < par.length
      · rw [List.getElem?_append_left hil] at hpi
        exact hp i p hpi
      · have hie : i = par.length := by omega
        subst hie
        rw [List.getElem?_append_right (Nat.le_refl _), Nat.sub_self] at hpi
        have : hh = p := by simpa using hpi
        omega
  · intro i u c hi hx hs
    by_cases hil : i < q.length
    · rw [List.getElem?_append_left hil] at hx
      exact h.shut i u c hi hx hs
    · have hie : i = q.length := by
        have := (List.getElem?_eq_some_iff.1 hx).1
        simp at this; omega
      subst hie
      rw [List.getElem?_append_right (Nat.le_refl _), Nat.sub_self] at hx
      have : y = 2 * u := by simpa using hx
      exact hsh u c this hs
/-- The queue is never longer than the nodes are many. -/
theorem nodup_len {q : List Nat} {m : Nat} (hn : q.Nodup) (hl : ∀ x ∈ q, x < m) : q.length ≤ m := by
  induction m generalizing q with
  | zero =>
    cases q with
    | nil => exact Nat.le_refl _
    | cons x q => exact absurd (hl x List.mem_cons_self) (Nat.not_lt_zero _)
  | succ m ih =>
    by_cases hm : m ∈ q
    · have h1 : (q.erase m).length = q.length - 1 := List.length_erase_of_mem hm
      have h2 := ih (hn.erase m) (fun x hx => by
        have h3 := (hn.mem_erase_iff).1 hx
        have := hl x h3.2
        omega)
      omega
    · have := ih hn (fun x hx => by
        have h3 := hl x hx
        have : x ≠ m := fun e => hm (e ▸ hx)
        omega)
      omega
end Go.Proofs.Qxb6605292a
