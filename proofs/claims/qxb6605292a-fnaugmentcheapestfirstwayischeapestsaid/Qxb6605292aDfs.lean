/-
  The law's own search (zzMaxFlow), plainly: nodes in the order of their marks, the stack, the way back.
-/
import Derived.Test.Qxb6605292aCut
import Derived.Test.Qxb6605292aStar
namespace Go.Proofs.Qxb6605292a

/-- A way back from x to s along vi: each arc leads to the node before it. -/
structure BW (l : List Arc) (vi : List Int) (x s : Nat) (ns ar : List Nat) : Prop where
  len : ns.length = ar.length + 1
  hd : ns[0]? = some x
  last : ns[ar.length]? = some s
  nd : ns.Nodup
  arc : ∀ k a : Nat, ar[k]? = some a → ∃ u v : Nat, ns[k]? = some u ∧ ns[k + 1]? = some v ∧ vi[u]? = some (a : Int) ∧ a < l.length ∧ toAt l a = (u : Int) ∧ toAt l (twin a) = (v : Int) ∧ roomAt l a ≠ 0
theorem BW.nil (l : List Arc) (vi : List Int) (s : Nat) : BW l vi s s [s] [] := ⟨rfl, rfl, rfl, by simp, fun k a h => by simp at h⟩
theorem BW.cons {l : List Arc} {vi : List Int} {v s : Nat} {ns ar : List Nat} (h : BW l vi v s ns ar) {u a : Nat} (hu : u ∉ ns) (hv : vi[u]? = some (a : Int)) (ha : a < l.length) (ht : toAt l a = (u : Int)) (hw : toAt l (twin a) = (v : Int)) (hr : roomAt l a ≠ 0) :
    BW l vi u s (u :: ns) (a :: ar) := by
  refine ⟨by simp [h.len], rfl, ?_, List.nodup_cons.2 ⟨hu, h.nd⟩, ?_⟩
  · rw [List.length_cons, List.getElem?_cons_succ]; exact h.last
  · intro k b hb
    cases k with
    | zero =>
      rw [List.getElem?_cons_zero] at hb
      injection hb with hb
      subst hb
      exact ⟨u, v, rfl, by rw [List.getElem?_cons_succ]; exact h.hd, hv, ha, ht, hw, hr⟩
    | succ k =>
      rw [List.getElem?_cons_succ] at hb
      obtain ⟨x, y, h1, h2, h3⟩ := h.arc k b hb
      exact ⟨x, y, by rw [List.getElem?_cons_succ]; exact h1, by rw [List.getElem?_cons_succ]; exact h2, h3⟩
section
variable {l : List Arc} {vi : List Int} {x s : Nat} {ns ar : List Nat}
theorem BW.apart (h : BW l vi x s ns ar) {i k a b : Nat} (hi : ar[i]? = some b) (hk : ar[k]? = some a) (hne : i ≠ k) : a ≠ b ∧ a ≠ twin b := by
  obtain ⟨u, v, u1, u2, _, _, u5, u6, _⟩ := h.arc i b hi
  obtain ⟨p, q, p1, p2, _, _, p5, p6, _⟩ := h.arc k a hk
  constructor
  · intro e
    subst e
    rw [u5] at p5
    have : u = p := by omega
    subst this
    exact hne (nodup_at h.nd u1 p1)
  · intro e
    subst e
    rw [u6] at p5
    rw [twin_twin, u5] at p6
    have e1 : q = u := by omega
    have e2 : p = v := by omega
    subst e1 e2
    have a1 := nodup_at h.nd u1 p2
    have a2 := nodup_at h.nd u2 p1
    omega
theorem BW.room (h : BW l vi x s ns ar) {k a : Nat} (hk : ar[k]? = some a) : roomAt (pushAll l (ar.take k)) a ≠ 0 := by
  rw [pushAll_ne]
  · obtain ⟨_, _, _, _, _, _, _, _, h9⟩ := h.arc k a hk
    exact h9
  · intro b hb
    obtain ⟨i, hi⟩ := List.mem_iff_getElem?.1 hb
    have hik : i < k := by
      have := (List.getElem?_eq_some_iff.1 hi).1
      rw [List.length_take] at this
      omega
    rw [List.getElem?_take_of_lt hik] at hi
    exact h.apart hi hk (by omega)
theorem BW.rm (h : BW l vi x s ns ar) (hr : Rm l) (hev : l.length % 2 = 0) : ∀ k, k ≤ ar.length → Rm (pushAll l (ar.take k)) := by
  intro k
  induction k with
  | zero => intro _; exact hr
  | succ k ih =>
    intro hk
    have h1 : ar[k]? = some ar[k] := List.getElem?_eq_getElem (by omega)
    rw [take_snoc h1, pushAll_snoc]
    obtain ⟨_, _, _, _, _, ha, _, _, _⟩ := h.arc k _ h1
    refine (ih (by omega)).pushAt (by rw [pushAll_len]; exact ha) ?_ (h.room h1)
    rw [pushAll_len]
    unfold twin
    split <;> omega
theorem BW.tele (h : BW l vi x s ns ar) (g : Int → Int) (f : Nat → Int) (hf : ∀ a ∈ ar, f a = g (toAt l (twin a)) - g (toAt l a)) : sumL f ar = g (s : Int) - g (x : Int) := by
  have key : ∀ k y, k ≤ ar.length → ns[k]? = some y → sumL f (ar.take k) = g ((y : Nat) : Int) - g (x : Int) := by
    intro k
    induction k with
    | zero =>
      intro y _ hy
      have := h.hd
      rw [hy] at this
      injection this with this
      subst this
      simp [sumL]
    | succ k ih =>
      intro y hk hy
      have ha : ar[k]? = some ar[k] := List.getElem?_eq_getElem (by omega)
      obtain ⟨u, v, h1, h2, _, _, h5, h6, _⟩ := h.arc k _ ha
      rw [hy] at h2
      injection h2 with h2
      subst h2
      rw [take_snoc ha, sumL_append, ih u (by omega) h1, sumL_cons, hf _ (List.getElem_mem _), h5, h6]
      simp [sumL]
      omega
  have := key ar.length s (Nat.le_refl _) h.last
  rw [List.take_length] at this
  exact this
theorem BW.cut (h : BW l vi x s ns ar) (S : Int → Bool) (X : Int → Int → Bool) (hs : S s = true) (hx : S x = false) (hX : ∀ a ∈ ar, X (toAt l (twin a)) (toAt l a) = false ∧ X (toAt l a) (toAt l (twin a)) = false) : sumL (fun a => leave S X l a - leave S X l (twin a)) ar = 1 := by
  have := h.tele (fun z => ind (S z = true)) (fun a => leave S X l a - leave S X l (twin a)) (fun a ha => by
    obtain ⟨h1, h2⟩ := hX a ha
    unfold leave
    rw [twin_twin, h1, h2]
    cases S (toAt l (twin a)) <;> cases S (toAt l a) <;> simp [ind])
  rw [this]
  simp [ind, hs, hx]
theorem BW.mem (h : BW l vi x s ns ar) {a : Nat} (ha : a ∈ ar) : a < l.length := by
  obtain ⟨i, hi⟩ := List.mem_iff_getElem?.1 ha
  obtain ⟨_, _, _, _, _, h4, _⟩ := h.arc i a hi
  exact h4
end
/-- What the search holds: od the nodes marked r, in order; st the stack. -/
structure DI (V s t : Nat) (r : Int) (l : List Arc) (mk vi : List Int) (od st : List Nat) : Prop where
  hd : od[0]? = some s
  nd : od.Nodup
  lt : ∀ x ∈ od, x < V
  mark : ∀ x, x < V → (mk[x]? = some r ↔ x ∈ od)
  mkl : mk.length = V
  vil : vi.length = V
  tree : ∀ i x : Nat, 0 < i → od[i]? = some x → ∃ a p y : Nat, vi[x]? = some (a : Int) ∧ a < l.length ∧ p < i ∧ od[p]? = some y ∧ toAt l a = (x : Int) ∧ toAt l (twin a) = (y : Int) ∧ roomAt l a ≠ 0
  sub : ∀ x ∈ st, x ∈ od
  snd : st.Nodup
/-- All arcs of x from place m on are worked off. -/
def Wk (l : List Arc) (od : List Nat) (x m : Nat) : Prop := ∀ a y : Nat, m ≤ a → a < l.length → toAt l (twin a) = (x : Int) → 0 < roomAt l a → toAt l a = (y : Int) → y ∈ od
theorem Wk.grow {l : List Arc} {od : List Nat} {x m : Nat} (h : Wk l od x m) (y : Nat) : Wk l (od ++ [y]) x m := fun a z h1 h2 h3 h4 h5 => List.mem_append_left _ (h a z h1 h2 h3 h4 h5)
section
variable {V s t : Nat} {r : Int} {l : List Arc} {mk vi : List Int} {od st : List Nat}
theorem DI.start (l : List Arc) (hs : s < V) (hmk : mk.length = V) (hvi : vi.length = V) (hold : ∀ (x : Nat) (y : Int), mk[x]? = some y → y < r) : DI V s t r l (mk.set s r) vi [s] [s] := by
  refine ⟨rfl, by simp, ?_, ?_, by rw [List.length_set]; exact hmk, hvi, ?_, by simp, by simp⟩
  · intro x hx; rw [List.mem_singleton] at hx; subst hx; exact hs
  · intro x hx
    by_cases e : s = x
    · subst e; rw [List.getElem?_set_self (by omega)]; simp
    · rw [List.getElem?_set_ne e, List.mem_singleton]
      exact ⟨fun h => absurd (hold x r h) (by omega), fun h => absurd h.symm e⟩
  · intro i x hi hx
    have := (List.getElem?_eq_some_iff.1 hx).1
    simp at this; omega
theorem DI.pop {x : Nat} (h : DI V s t r l mk vi od (st ++ [x])) : DI V s t r l mk vi od st ∧ x ∈ od ∧ x ∉ st := by
  have hn := h.snd
  rw [List.nodup_append] at hn
  exact ⟨⟨h.hd, h.nd, h.lt, h.mark, h.mkl, h.vil, h.tree, fun y hy => h.sub y (List.mem_append_left _ hy), hn.1⟩, h.sub x (by simp), fun hx => hn.2.2 x hx x (by simp) rfl⟩
/-- One more node is marked, from x by arc a. -/
theorem DI.add (h : DI V s t r l mk vi od st) {x y a : Nat} (hx : x ∈ od) (hy : y < V) (hns : mk[y]? ≠ some r) (ha : a < l.length) (ht : toAt l a = (y : Int)) (hw : toAt l (twin a) = (x : Int)) (hr : roomAt l a ≠ 0) :
    DI V s t r l (mk.set y r) (vi.set y (a : Int)) (od ++ [y]) (st ++ [y]) := by
  have hnq : y ∉ od := fun hq => hns ((h.mark y hy).2 hq)
  obtain ⟨p, hp⟩ := List.mem_iff_getElem?.1 hx
  have hpl := (List.getElem?_eq_some_iff.1 hp).1
  have h0 : 0 < od.length := (List.getElem?_eq_some_iff.1 h.hd).1
  refine ⟨?_, ?_, ?_, ?_, by rw [List.length_set]; exact h.mkl, by rw [List.length_set]; exact h.vil, ?_, ?_, ?_⟩
  · rw [List.getElem?_append_left h0]; exact h.hd
  · rw [List.nodup_append]
    exact ⟨h.nd, by simp, fun a ha c hc => by rw [List.mem_singleton] at hc; subst hc; exact fun e => hnq (e ▸ ha)⟩
  · intro z hz
    rcases List.mem_append.1 hz with hz | hz
    · exact h.lt z hz
    · rw [List.mem_singleton] at hz; subst hz; exact hy
  · intro z hz
    by_cases e : y = z
    · subst e
      rw [List.getElem?_set_self (by rw [h.mkl]; omega)]
      simp
    · rw [List.getElem?_set_ne e, h.mark z hz, List.mem_append, List.mem_singleton]
      exact ⟨.inl, fun hx => hx.resolve_right (fun hxy => e hxy.symm)⟩
  · intro i z hi hz
    by_cases hil : i < od.length
    · rw [List.getElem?_append_left hil] at hz
      have hne : y ≠ z := fun e => hnq (e ▸ List.mem_of_getElem? hz)
      obtain ⟨b, q, u, t1, t2, t4, t5, t6, t7, t8⟩ := h.tree i z hi hz
      exact ⟨b, q, u, by rw [List.getElem?_set_ne hne]; exact t1, t2, t4, by rw [List.getElem?_append_left (by omega)]; exact t5, t6, t7, t8⟩
    · have hie : i = od.length := by
        have := (List.getElem?_eq_some_iff.1 hz).1
        simp at this; omega
      subst hie
      rw [List.getElem?_append_right (Nat.le_refl _), Nat.sub_self] at hz
      have hzy : y = z := by simpa using hz
      subst hzy
      exact ⟨a, p, x, by rw [List.getElem?_set_self (by rw [h.vil]; omega)], ha, hpl, by rw [List.getElem?_append_left hpl]; exact hp, ht, hw, hr⟩
  · intro z hz
    rcases List.mem_append.1 hz with hz | hz
    · exact List.mem_append_left _ (h.sub z hz)
    · exact List.mem_append_right _ hz
  · rw [List.nodup_append]
    exact ⟨h.snd, by simp, fun b hb c hc => by rw [List.mem_singleton] at hc; subst hc; exact fun e => hnq (e ▸ h.sub b hb)⟩
theorem DI.back (h : DI V s t r l mk vi od st) : ∀ i x : Nat, od[i]? = some x → ∃ ns ar, BW l vi x s ns ar ∧ ∀ z ∈ ns, ∃ j, j ≤ i ∧ od[j]? = some z := by
  intro i
  induction i using Nat.strongRecOn with
  | _ i ih =>
    intro x hx
    by_cases hi : i = 0
    · subst hi
      have := h.hd
      rw [hx] at this
      injection this with this
      subst this
      exact ⟨[x], [], BW.nil _ _ _, fun z hz => ⟨0, Nat.le_refl _, by rw [List.mem_singleton] at hz; subst hz; exact hx⟩⟩
    · obtain ⟨a, p, y, t1, t2, t4, t5, t6, t7, t8⟩ := h.tree i x (by omega) hx
      obtain ⟨ns, ar, hw, hin⟩ := ih p t4 y t5
      refine ⟨x :: ns, a :: ar, hw.cons (fun hm => ?_) t1 t2 t6 t7 t8, fun z hz => ?_⟩
      · obtain ⟨j, hj, hq⟩ := hin x hm
        have := nodup_at h.nd hx hq
        omega
      · rcases List.mem_cons.1 hz with rfl | hz
        · exact ⟨i, Nat.le_refl _, hx⟩
        · obtain ⟨j, hj, hq⟩ := hin z hz
          exact ⟨j, by omega, hq⟩
theorem DI.len (h : DI V s t r l mk vi od st) : od.length ≤ V ∧ st.length ≤ V := ⟨nodup_len h.nd h.lt, nodup_len h.snd (fun x hx => h.lt x (h.sub x hx))⟩
end
end Go.Proofs.Qxb6605292a
