/-
  The way found, plainly: its nodes, its arcs, and what pushing along it does to the rooms.
-/
import Derived.Test.Qxb6605292aBfs2
namespace Go.Proofs.Qxb6605292a

/-- A way from x to sink along vi: nodes ns, arcs ar. -/
structure Way (l : List Arc) (vi : List Int) (x sink : Nat) (ns ar : List Nat) : Prop where
  len : ns.length = ar.length + 1
  hd : ns[0]? = some x
  last : ns[ar.length]? = some sink
  nd : ns.Nodup
  arc : ∀ k a : Nat, ar[k]? = some a → ∃ u v : Nat, ns[k]? = some u ∧ ns[k + 1]? = some v ∧ vi[u]? = some (a : Int) ∧ a < l.length ∧ toAt l a = (v : Int) ∧ toAt l (twin a) = (u : Int) ∧ roomAt l a ≠ 0
theorem Way.nil (l : List Arc) (vi : List Int) (sink : Nat) : Way l vi sink sink [sink] [] :=
  ⟨rfl, rfl, rfl, by simp, fun k a h => by simp at h⟩
theorem Way.cons {l : List Arc} {vi : List Int} {v sink : Nat} {ns ar : List Nat} (h : Way l vi v sink ns ar) {u a : Nat} (hu : u ∉ ns) (hv : vi[u]? = some (a : Int)) (ha : a < l.length) (ht : toAt l a = (v : Int)) (hw : toAt l (twin a) = (u : Int)) (hr : roomAt l a ≠ 0) :
    Way l vi u sink (u :: ns) (a :: ar) := by
  refine ⟨by simp [h.len], rfl, ?_, List.nodup_cons.2 ⟨hu, h.nd⟩, ?_⟩
  · rw [List.length_cons, List.getElem?_cons_succ]; exact h.last
  · intro k b hb
    cases k with
    | zero =>
      rw [List.getElem?_cons_zero] at hb
      injection hb with hb
      subst hb
      exact ⟨u, v, rfl, by rw [List.getElem?_cons_succ]; exact h.hd, hv, ha, ht, hw, hr⟩
    | succ k =>
      rw [List.getElem?_cons_succ] at hb
      obtain ⟨x, y, h1, h2, h3⟩ := h.arc k b hb
      exact ⟨x, y, by rw [List.getElem?_cons_succ]; exact h1, by rw [List.getElem?_cons_succ]; exact h2, h3⟩
theorem Way.congr {l : List Arc} {vi vi' : List Int} {v sink : Nat} {ns ar : List Nat} (h : Way l vi v sink ns ar) (hv : ∀ x ∈ ns, vi'[x]? = vi[x]?) : Way l vi' v sink ns ar := by
  refine ⟨h.len, h.hd, h.last, h.nd, ?_⟩
  intro k a hk
  obtain ⟨u, w, h1, h2, h3, h4⟩ := h.arc k a hk
  exact ⟨u, w, h1, h2, by rw [hv u (List.mem_of_getElem? h1)]; exact h3, h4⟩
theorem nodup_at {ns : List Nat} (h : ns.Nodup) {i j x : Nat} (hi : ns[i]? = some x) (hj : ns[j]? = some x) : i = j := by
  have h1 := (List.getElem?_eq_some_iff.1 hi).1
  exact (List.getElem?_inj h1 h).1 (by rw [hi, hj])
theorem BI.way {n sink : Nat} {W : Int} {l : List Arc} {source sn vi : List Int} {q par : List Nat} (h : BI n sink W l source sn vi q par) : ∀ i x : Nat, q[i]? = some x → ∃ ns ar, Way l vi x sink ns ar ∧ ∀ z ∈ ns, ∃ j, j ≤ i ∧ q[j]? = some z := by
  intro i
  induction i using Nat.strongRecOn with
  | _ i ih =>
    intro x hx
    by_cases hi : i = 0
    · subst hi
      have := h.hd
      rw [hx] at this
      injection this with this
      subst this
      exact ⟨[x], [], Way.nil _ _ _, fun z hz => ⟨0, Nat.le_refl _, by rw [List.mem_singleton] at hz; subst hz; exact hx⟩⟩
    · obtain ⟨a, p, y, t1, t2, t3, t4, t5, t6, t7, t8⟩ := h.tree i x (by omega) hx
      obtain ⟨ns, ar, hw, hin⟩ := ih p t4 y t5
      refine ⟨x :: ns, a :: ar, hw.cons (fun hm => ?_) t1 t2 t6 t7 t8, fun z hz => ?_⟩
      · obtain ⟨j, hj, hq⟩ := hin x hm
        have := nodup_at h.nd hx hq
        omega
      · rcases List.mem_cons.1 hz with rfl | hz
        · exact ⟨i, Nat.le_refl _, hx⟩
        · obtain ⟨j, hj, hq⟩ := hin z hz
          exact ⟨j, by omega, hq⟩
theorem Found.way {n sink : Nat} {W : Int} {l : List Arc} {source sn vi : List Int} {q par : List Nat} (h : Found n sink W l source sn vi q par) : ∃ ns ar, Way l vi (2 * n) sink ns ar := by
  obtain ⟨sn0, vi0, f, p, v, a, b, hb, hf, hfq, _, rfl, hv, ha1, ha2, ha3, ha4, hb1, hb2, hb3, hb4, _⟩ := h
  obtain ⟨ns, ar, hw, hin⟩ := hb.way p v hv
  have hq : ∀ z ∈ ns, z ∈ q := fun z hz => by obtain ⟨j, _, h⟩ := hin z hz; exact List.mem_of_getElem? h
  have hvl := hb.vil
  have hc : Way l ((vi0.set f (a : Int)).set (2 * n) (b : Int)) v sink ns ar := hw.congr fun x hx => by
    have h1 := hb.lt x (hq x hx)
    have h2 : f ≠ x := fun e => hfq (e ▸ hq x hx)
    rw [List.getElem?_set_ne (by omega), List.getElem?_set_ne h2]
  have h2 := hc.cons (u := f) (a := a) (fun hm => hfq (hq f hm)) (by rw [List.getElem?_set_ne (by omega), List.getElem?_set_self (by omega)]) ha1 ha2 ha3 ha4
  exact ⟨_, _, h2.cons (u := 2 * n) (a := b) (fun hm => by
    rcases List.mem_cons.1 hm with e | hm
    · omega
    · have := hb.lt _ (hq _ hm); omega) (by rw [List.getElem?_set_self (by rw [List.length_set]; omega)]) hb1 hb2 hb3 (by omega)⟩

theorem pushAt_ne (l : List Arc) {a b : Nat} (h1 : b ≠ a) (h2 : b ≠ twin a) : roomAt (pushAt l a) b = roomAt l b := by
  unfold pushAt
  rw [setRm_ne _ _ (Ne.symm h2), setRm_ne _ _ (Ne.symm h1)]
theorem pushAt_self (l : List Arc) {a : Nat} (ha : a < l.length) : roomAt (pushAt l a) a = roomAt l a - 1 := by
  unfold pushAt
  rw [setRm_ne _ _ (twin_ne a), setRm_same _ _ _ ha]
theorem pushAt_twin (l : List Arc) {a : Nat} (ha : twin a < l.length) : roomAt (pushAt l a) (twin a) = roomAt l (twin a) + 1 := by
  unfold pushAt
  rw [setRm_same _ _ _ (by rw [setRm_len]; exact ha)]
theorem Rm.pushAt {l : List Arc} (h : Rm l) {a : Nat} (ha : a < l.length) (ht : twin a < l.length) (hr : roomAt l a ≠ 0) : Rm (pushAt l a) := by
  have h1 := h.lo a
  have h2 := h.sum a
  have h3 := h.lo (twin a)
  have e1 := pushAt_self l ha
  have e2 := pushAt_twin l ht
  have key : ∀ b, b = a ∨ b = twin a ∨ (b ≠ a ∧ b ≠ twin a) := fun b => by omega
  refine ⟨fun b => ?_, fun b => ?_⟩
  · rcases key b with rfl | rfl | ⟨k1, k2⟩
    · rw [e1]; omega
    · rw [e2]; omega
    · rw [pushAt_ne _ k1 k2]; exact h.lo b
  · rcases key b with rfl | rfl | ⟨k1, k2⟩
    · rw [e1, e2]; omega
    · rw [twin_twin, e1, e2]; omega
    · rw [pushAt_ne _ k1 k2, pushAt_ne _ (fun e => k2 (by rw [← e, twin_twin])) (fun e => k1 (by rw [← twin_twin b, e, twin_twin]))]; exact h.sum b
def pushAll (l : List Arc) (ar : List Nat) : List Arc := ar.foldl pushAt l
theorem pushAll_snoc (l : List Arc) (ar : List Nat) (a : Nat) : pushAll l (ar ++ [a]) = pushAt (pushAll l ar) a := by simp [pushAll]
theorem pushAll_len (l : List Arc) (ar : List Nat) : (pushAll l ar).length = l.length := by
  unfold pushAll
  induction ar generalizing l with
  | nil => rfl
  | cons a ar ih => rw [List.foldl_cons, ih, pushAt_len]
theorem toAt_pushAll (l : List Arc) (ar : List Nat) (a : Nat) : toAt (pushAll l ar) a = toAt l a := by
  unfold pushAll
  induction ar generalizing l with
  | nil => rfl
  | cons b ar ih => rw [List.foldl_cons, ih, toAt_pushAt]
theorem pushAll_ne (l : List Arc) {bs : List Nat} {a : Nat} (h : ∀ b ∈ bs, a ≠ b ∧ a ≠ twin b) : roomAt (pushAll l bs) a = roomAt l a := by
  unfold pushAll
  induction bs generalizing l with
  | nil => rfl
  | cons b bs ih =>
    rw [List.foldl_cons, ih _ (fun c hc => h c (List.mem_cons_of_mem _ hc)), pushAt_ne _ (h b List.mem_cons_self).1 (h b List.mem_cons_self).2]
theorem Nw.pushAll {n : Nat} {l : List Arc} {nodes : List (List Int)} {source : List Int} (h : Nw n l nodes source) (ar : List Nat) : Nw n (pushAll l ar) nodes source := by
  unfold Go.Proofs.Qxb6605292a.pushAll
  induction ar generalizing l with
  | nil => exact h
  | cons a ar ih => rw [List.foldl_cons]; exact ih (h.pushAt a)
section
variable {l : List Arc} {vi : List Int} {x sink : Nat} {ns ar : List Nat}
theorem Way.apart (h : Way l vi x sink ns ar) {i k a b : Nat} (hi : ar[i]? = some b) (hk : ar[k]? = some a) (hne : i ≠ k) : a ≠ b ∧ a ≠ twin b := by
  obtain ⟨u, v, u1, u2, _, _, u5, u6, _⟩ := h.arc i b hi
  obtain ⟨p, q, p1, p2, _, _, p5, p6, _⟩ := h.arc k a hk
  constructor
  · intro e
    subst e
    rw [u6] at p6
    have : u = p := by omega
    subst this
    exact hne (nodup_at h.nd u1 p1)
  · intro e
    subst e
    rw [u6] at p5
    rw [twin_twin, u5] at p6
    have e1 : q = u := by omega
    have e2 : p = v := by omega
    subst e1 e2
    have a1 := nodup_at h.nd u1 p2
    have a2 := nodup_at h.nd u2 p1
    omega
theorem Way.room (h : Way l vi x sink ns ar) {k a : Nat} (hk : ar[k]? = some a) : roomAt (pushAll l (ar.take k)) a ≠ 0 := by
  rw [pushAll_ne]
  · obtain ⟨_, _, _, _, _, _, _, _, h9⟩ := h.arc k a hk
    exact h9
  · intro b hb
    obtain ⟨i, hi⟩ := List.mem_iff_getElem?.1 hb
    have hik : i < k := by
      have := (List.getElem?_eq_some_iff.1 hi).1
      rw [List.length_take] at this
      omega
    rw [List.getElem?_take_of_lt hik] at hi
    exact h.apart hi hk (by omega)
theorem take_snoc {ar : List Nat} {k a : Nat} (hk : ar[k]? = some a) : ar.take (k + 1) = ar.take k ++ [a] := by
  rw [List.take_add_one, hk]; rfl
theorem Way.rm (h : Way l vi x sink ns ar) (hr : Rm l) (hev : l.length % 2 = 0) : ∀ k, k ≤ ar.length → Rm (pushAll l (ar.take k)) := by
  intro k
  induction k with
  | zero => intro _; exact hr
  | succ k ih =>
    intro hk
    have h1 : ar[k]? = some ar[k] := List.getElem?_eq_getElem (by omega)
    rw [take_snoc h1, pushAll_snoc]
    obtain ⟨_, _, _, _, _, ha, _, _, _⟩ := h.arc k _ h1
    refine (ih (by omega)).pushAt (by rw [pushAll_len]; exact ha) ?_ (h.room h1)
    rw [pushAll_len]
    unfold twin
    split <;> omega
theorem Way.rmAll (h : Way l vi x sink ns ar) (hr : Rm l) (hev : l.length % 2 = 0) : Rm (pushAll l ar) := by
  have := h.rm hr hev ar.length (Nat.le_refl _)
  rw [List.take_length] at this
  exact this
theorem Way.lt_len (h : Way l vi x sink ns ar) {n : Nat} (hv : vi.length = n) : ar.length ≤ n := by
  have key : ∀ z ∈ ns.take ar.length, z < n := by
    intro z hz
    obtain ⟨i, hi⟩ := List.mem_iff_getElem?.1 hz
    have h1 := (List.getElem?_eq_some_iff.1 hi).1
    rw [List.length_take] at h1
    have hia : i < ar.length := by omega
    rw [List.getElem?_take_of_lt hia] at hi
    obtain ⟨u, _, h2, _, h3, _⟩ := h.arc i _ (List.getElem?_eq_getElem hia)
    rw [hi] at h2
    injection h2 with h2
    subst h2
    have := (List.getElem?_eq_some_iff.1 h3).1
    omega
  have h1 := nodup_len (h.nd.sublist (List.take_sublist ar.length ns)) key
  rw [List.length_take] at h1
  have := h.len
  omega
end
end Go.Proofs.Qxb6605292a
