/-
  The law's own breadth-first search (zzFewestArcs), plainly: distances, queue; and its memory.
-/
import Derived.Test.Qxb6605292aMaxW
namespace Go.Proofs.Qxb6605292a
open Go.RowKit

def dAt (ds : List Int) (x : Nat) : Int := ds.getD x (-1)
theorem dAt_get {ds : List Int} {x : Nat} (h : x < ds.length) : ds[x]? = some (dAt ds x) := by
  unfold dAt
  rw [List.getD_eq_getElem?_getD, List.getElem?_eq_getElem h]; rfl
theorem dAt_self {ds : List Int} {x : Nat} (d : Int) (h : x < ds.length) : dAt (ds.set x d) x = d := by
  unfold dAt
  rw [List.getD_eq_getElem?_getD, List.getElem?_set_self h]; rfl
theorem dAt_ne {ds : List Int} {x y : Nat} (d : Int) (h : y ≠ x) : dAt (ds.set y d) x = dAt ds x := by
  unfold dAt
  rw [List.getD_eq_getElem?_getD, List.getElem?_set_ne h, List.getD_eq_getElem?_getD]
/-- What the distances say at the end. -/
structure Lev (V s : Nat) (l : List Arc) (ds : List Int) : Prop where
  s0 : dAt ds s = 0
  up : ∀ a x y : Nat, a < l.length → toAt l (twin a) = (x : Int) → toAt l a = (y : Int) → roomAt l a ≠ 0 → 0 ≤ dAt ds x → 0 ≤ dAt ds y ∧ dAt ds y ≤ dAt ds x + 1
  tree : ∀ x, 0 ≤ dAt ds x → x = s ∨ ∃ a y : Nat, a < l.length ∧ toAt l (twin a) = (y : Int) ∧ toAt l a = (x : Int) ∧ roomAt l a ≠ 0 ∧ dAt ds y = dAt ds x - 1 ∧ 0 ≤ dAt ds y
/-- What the search holds. -/
structure QB (V s : Nat) (l : List Arc) (ds : List Int) (q : List Nat) : Prop where
  dl : ds.length = V
  lo : ∀ x, -1 ≤ dAt ds x
  hd : q[0]? = some s
  nd : q.Nodup
  lt : ∀ x ∈ q, x < V
  seen : ∀ x, x < V → (0 ≤ dAt ds x ↔ x ∈ q)
  s0 : dAt ds s = 0
  mono : ∀ i j x y : Nat, i ≤ j → q[i]? = some x → q[j]? = some y → dAt ds x ≤ dAt ds y
  big : ∀ i x : Nat, q[i]? = some x → dAt ds x ≤ i
  tree : ∀ x, x ∈ q → x = s ∨ ∃ a y : Nat, a < l.length ∧ toAt l (twin a) = (y : Int) ∧ toAt l a = (x : Int) ∧ roomAt l a ≠ 0 ∧ dAt ds y = dAt ds x - 1 ∧ 0 ≤ dAt ds y
/-- Node x's arcs from mi on are worked off. -/
def Wq (l : List Arc) (ds : List Int) (x mi : Nat) : Prop := ∀ a y : Nat, mi ≤ a → a < l.length → toAt l (twin a) = (x : Int) → roomAt l a ≠ 0 → toAt l a = (y : Int) → 0 ≤ dAt ds y ∧ dAt ds y ≤ dAt ds x + 1
/-- All in the queue lie at most one behind x. -/
def Top (ds : List Int) (q : List Nat) (x : Nat) : Prop := ∀ y ∈ q, dAt ds y ≤ dAt ds x + 1
def DoneQ (l : List Arc) (ds : List Int) (q : List Nat) (k : Nat) : Prop := ∀ p x : Nat, p < k → q[p]? = some x → Wq l ds x 0
theorem QB.start {V s : Nat} (l : List Arc) (hs : s < V) : QB V s l ((List.replicate V (-1)).set s 0) [s] := by
  have hl : (List.replicate V (-1 : Int)).length = V := by simp
  refine ⟨by simp, fun x => ?_, rfl, by simp, fun x hx => by rw [List.mem_singleton] at hx; omega, fun x hx => ?_, dAt_self 0 (by omega), fun i j x y hij hx hy => ?_, fun i x hx => ?_, fun x hx => .inl (by simpa using hx)⟩
  · by_cases e : s = x
    · subst e; rw [dAt_self 0 (by omega)]; omega
    · rw [dAt_ne 0 e]
      unfold dAt
      rw [List.getD_eq_getElem?_getD, List.getElem?_replicate]
      split <;> simp
  · by_cases e : s = x
    · subst e
      rw [dAt_self 0 (by omega)]
      simp
    · rw [dAt_ne 0 e]
      have : dAt (List.replicate V (-1 : Int)) x = -1 := by unfold dAt; simp [List.getD_eq_getElem?_getD, hx]
      rw [this]
      simp
      omega
  · have h1 := (List.getElem?_eq_some_iff.1 hx).1
    have h2 := (List.getElem?_eq_some_iff.1 hy).1
    simp at h1 h2
    subst h1 h2
    rw [hx] at hy
    injection hy with hy
    subst hy
    exact Int.le_refl _
  · have h1 := (List.getElem?_eq_some_iff.1 hx).1
    simp at h1
    subst h1
    simp at hx
    subst hx
    rw [dAt_self 0 (by omega)]
    omega
section
variable {V s : Nat} {l : List Arc} {ds : List Int} {q : List Nat}
theorem QB.qlen (h : QB V s l ds q) : q.length ≤ V := nodup_len h.nd h.lt
theorem Wq.grow {x mi : Nat} (h : Wq l ds x mi) {y : Nat} {d : Int} (hy : dAt ds y < 0) (hxy : y ≠ x) : Wq l (ds.set y d) x mi := by
  intro a z h1 h2 h3 h4 h5
  have := h a z h1 h2 h3 h4 h5
  have e : y ≠ z := fun e => by subst e; omega
  rw [dAt_ne d e, dAt_ne d hxy]
  exact this
theorem QB.add (h : QB V s l ds q) {hh x y a : Nat} (hx : q[hh]? = some x) (ht : Top ds q x) (hy : y < V) (hd : dAt ds y < 0) (ha : a < l.length) (h1 : toAt l (twin a) = (x : Int)) (h2 : toAt l a = (y : Int)) (h3 : roomAt l a ≠ 0) :
    QB V s l (ds.set y (dAt ds x + 1)) (q ++ [y]) ∧ Top (ds.set y (dAt ds x + 1)) (q ++ [y]) x ∧ y ∉ q ∧ y ≠ x := by
  have hxq : x ∈ q := List.mem_of_getElem? hx
  have hx0 : 0 ≤ dAt ds x := (h.seen x (h.lt x hxq)).2 hxq
  have hnq : y ∉ q := fun hq => by have := (h.seen y hy).2 hq; omega
  have hyx : y ≠ x := fun e => hnq (e ▸ hxq)
  have hyl : y < ds.length := by rw [h.dl]; exact hy
  have h0 : 0 < q.length := (List.getElem?_eq_some_iff.1 h.hd).1
  have hhl : hh < q.length := (List.getElem?_eq_some_iff.1 hx).1
  have old : ∀ z ∈ q, dAt (ds.set y (dAt ds x + 1)) z = dAt ds z := fun z hz => dAt_ne _ (fun e => hnq (e ▸ hz))
  have new : dAt (ds.set y (dAt ds x + 1)) y = dAt ds x + 1 := dAt_self _ hyl
  have cases' : ∀ i z : Nat, (q ++ [y])[i]? = some z → (i < q.length ∧ q[i]? = some z) ∨ (i = q.length ∧ z = y) := by
    intro i z hz
    by_cases hi : i < q.length
    · rw [List.getElem?_append_left hi] at hz; exact .inl ⟨hi, hz⟩
    · have hie : i = q.length := by
        have := (List.getElem?_eq_some_iff.1 hz).1
        simp at this; omega
      subst hie
      simp at hz
      exact .inr ⟨rfl, hz.symm⟩
  refine ⟨⟨by rw [List.length_set]; exact h.dl, fun z => ?_, by rw [List.getElem?_append_left h0]; exact h.hd, ?_, ?_, ?_, ?_, ?_, ?_, ?_⟩, ?_, hnq, hyx⟩
  · by_cases e : y = z
    · subst e; rw [new]; omega
    · rw [dAt_ne _ e]; exact h.lo z
  · rw [List.nodup_append]
    exact ⟨h.nd, by simp, fun a ha c hc => by rw [List.mem_singleton] at hc; subst hc; exact fun e => hnq (e ▸ ha)⟩
  · intro z hz
    rcases List.mem_append.1 hz with hz | hz
    · exact h.lt z hz
    · rw [List.mem_singleton] at hz; subst hz; exact hy
  · intro z hz
    by_cases e : y = z
    · subst e
      rw [new]
      simp
      omega
    · rw [dAt_ne _ e, h.seen z hz, List.mem_append, List.mem_singleton]
      exact ⟨.inl, fun hx => hx.resolve_right (fun hxy => e hxy.symm)⟩
  · rw [old s (List.mem_of_getElem? h.hd)]; exact h.s0
  · intro i j u v hij hu hv
    rcases cases' i u hu with ⟨_, hu'⟩ | ⟨hi, rfl⟩
    · rcases cases' j v hv with ⟨_, hv'⟩ | ⟨_, rfl⟩
      · rw [old u (List.mem_of_getElem? hu'), old v (List.mem_of_getElem? hv')]
        exact h.mono i j u v hij hu' hv'
      · rw [new, old u (List.mem_of_getElem? hu')]
        exact ht u (List.mem_of_getElem? hu')
    · rcases cases' j v hv with ⟨hj, _⟩ | ⟨_, rfl⟩
      · omega
      · exact Int.le_refl _
  · intro i u hu
    rcases cases' i u hu with ⟨_, hu'⟩ | ⟨hi, rfl⟩
    · rw [old u (List.mem_of_getElem? hu')]; exact h.big i u hu'
    · rw [new]
      have := h.big hh x hx
      omega
  · intro z hz
    rcases List.mem_append.1 hz with hz | hz
    · rcases h.tree z hz with e | ⟨b, u, b1, b2, b3, b4, b5, b6⟩
      · exact .inl e
      · have hun : y ≠ u := fun e => by subst e; omega
        exact .inr ⟨b, u, b1, b2, b3, b4, by rw [dAt_ne _ hun, old z hz]; exact b5, by rw [dAt_ne _ hun]; exact b6⟩
    · rw [List.mem_singleton] at hz
      subst hz
      exact .inr ⟨a, x, ha, h1, h2, h3, by rw [new, dAt_ne _ hyx]; omega, by rw [dAt_ne _ hyx]; exact hx0⟩
  · intro z hz
    rw [dAt_ne _ hyx]
    rcases List.mem_append.1 hz with hz | hz
    · rw [old z hz]; exact ht z hz
    · rw [List.mem_singleton] at hz; subst hz; rw [new]; exact Int.le_refl _
theorem DoneQ.grow {k : Nat} (h : DoneQ l ds q k) (hb : QB V s l ds q) (hk : k ≤ q.length) {y : Nat} {d : Int} (hy : dAt ds y < 0) : DoneQ l (ds.set y d) (q ++ [y]) k := by
  intro p x hp hx
  rw [List.getElem?_append_left (by omega)] at hx
  have hxq := List.mem_of_getElem? hx
  have := (hb.seen x (hb.lt x hxq)).2 hxq
  exact (h p x hp hx).grow hy (fun e => by subst e; omega)
theorem QB.lev (h : QB V s l ds q) (hd : DoneQ l ds q q.length) : Lev V s l ds := by
  have hin : ∀ x, 0 ≤ dAt ds x → x ∈ q := fun x hx => by
    by_cases hv : x < V
    · exact (h.seen x hv).1 hx
    · have : dAt ds x = -1 := by unfold dAt; rw [List.getD_eq_getElem?_getD, List.getElem?_eq_none (by rw [h.dl]; omega)]; rfl
      omega
  refine ⟨h.s0, fun a x y ha hx hy hr h0 => ?_, fun x hx => h.tree x (hin x hx)⟩
  obtain ⟨p, hp⟩ := List.mem_iff_getElem?.1 (hin x h0)
  exact hd p x (List.getElem?_eq_some_iff.1 hp).1 hp a y (Nat.zero_le _) ha hx hr hy
end
/-- The queue's slice: a block of its own, from B on. -/
def Sq (wr : World) (B : Nat) (vs : Value) (st : List Nat) : Prop := ∃ g c, vs = .slice (some ⟨g, 0, none⟩) st.length c ∧ B ≤ g ∧ wr.ownsRow 0 21 1 vs st.length (st.map fun x : Nat => Value.int .i32 (x : Int))
structure QI (w : World) (T : Nat → Nat) (H Z F V : Nat) (ps : List Pr) (l : List Arc) (ds : List Int) (vs : Value) (q : List Nat) (wr : World) : Prop where
  z : ZL wr T Z F V ps l
  low : ∀ b, T b ≠ 0 → b < H
  m : Rw wr H 21 (ds.map (.int .i32))
  s : Sq wr (H + 1) vs q
  k : Kept (fun b => H ≤ b) w wr
section
variable {w wr w' : World} {T : Nat → Nat} {B H Z F V : Nat} {ps : List Pr} {l : List Arc} {ds : List Int} {vs : Value} {st q : List Nat}
theorem Sq.kept {M : Nat → Prop} (h : Sq wr B vs st) (hk : Kept M wr w') (hm : ∀ g, B ≤ g → ¬ M g) : Sq w' B vs st := by
  obtain ⟨g, c, e, h1, h2⟩ := h
  exact ⟨g, c, e, h1, ownsRow_kept h2 hk (fun g' hg' => by rw [e] at hg'; simp [Value.ownBlock] at hg'; subst hg'; exact hm g h1)⟩
theorem Sq.form (h : Sq wr B vs st) : ∃ g c, vs = .slice (some ⟨g, 0, none⟩) st.length c ∧ st.length ≤ c := by
  obtain ⟨g, c, e, h1, h2⟩ := h
  obtain ⟨ao, c', e', h3, _⟩ := ownsRow_slice h2
  rw [e] at e'
  cases e'
  exact ⟨g, c, e, h3⟩
theorem Sq.cell (h : Sq wr B vs st) {g c j x : Nat} (hv : vs = .slice (some ⟨g, 0, none⟩) st.length c) (hj : st[j]? = some x) : wr.cell? ⟨g, j, none⟩ = some (.int .i32 (x : Int)) := by
  obtain ⟨g', c', e, h1, h2⟩ := h
  rw [hv] at e
  cases e
  have hl := (List.getElem?_eq_some_iff.1 hj).1
  rcases h2.2 with ⟨e1, _⟩ | ⟨g2, c2, cur, e1, b1, b2, b3, b4, b5, b6⟩
  · rw [hv] at e1; cases e1
  · rw [hv] at e1
    cases e1
    have hr : Rw wr g 21 cur.toList := by unfold Rw; rw [b2, Array.toArray_toList]
    rw [hr.cell]
    have e2 : (cur.toList.take (st.length * 1))[j]? = cur.toList[j]? := List.getElem?_take_of_lt (by omega)
    rw [← e2, b6, List.getElem?_map, hj]; rfl
theorem QI.draws (h : QI w T H Z F V ps l ds vs q wr) (n : Nat) : QI w T H Z F V ps l ds vs q (wr.drewN n) := by
  have hk : Kept (fun _ => False) wr (wr.drewN n) := ⟨rfl, rfl, rfl, Nat.le_refl _, fun _ _ _ => rfl⟩
  exact ⟨h.z.kept hk (fun _ _ h => h), h.low, h.m, h.s.kept hk (fun _ _ h => h), ⟨h.k.os, h.k.tape, h.k.output, h.k.size, h.k.block⟩⟩
theorem QI.drew (h : QI w T H Z F V ps l ds vs q wr) : QI w T H Z F V ps l ds vs q wr.drew := by
  have hk : Kept (fun _ => False) wr wr.drew := (Kept.refl _ _).drew
  exact ⟨h.z.kept hk (fun _ _ h => h), h.low, h.m, h.s.kept hk (fun _ _ h => h), h.k.drew⟩
theorem QI.setD (h : QI w T H Z F V ps l ds vs q wr) (i : Nat) (x : Int) : QI w T H Z F V ps l (ds.set i x) vs q (wr.setCell ⟨H, i, none⟩ (.int .i32 x)) := by
  have hk : Kept (fun b => b = H) wr (wr.setCell ⟨H, i, none⟩ (.int .i32 x)) := (Kept.refl (fun b => b = H) wr).setCell (p := ⟨H, i, none⟩) (fun _ => rfl) _
  exact ⟨h.z.kept hk (fun b hb e => by have := h.low b hb; omega), h.low, by rw [List.map_set]; exact h.m.set i _, h.s.kept hk (fun g hg e => by omega), h.k.setCell (p := ⟨H, i, none⟩) (fun _ => Nat.le_refl _) _⟩
theorem QI.push {w0 w1 : World} {gg cap K y : Nat} (h : QI w T H Z F V ps l ds vs q wr) (hb : Below wr.heap.size wr w0)
    (hown : w1.ownsRow 0 21 1 (.slice (some ⟨gg, 0, none⟩) (q.length + 1) cap) (q.length + 1) ((q.map fun x : Nat => Value.int .i32 (x : Int)) ++ [.int .i32 (y : Int)])) (hgrow : w0.grownBy w1 vs.ownBlock) (hat : vs.ownBlock = some gg ∨ gg = K) (hK : w0.heap.size = K) :
    QI w T H Z F V ps l ds (.slice (some ⟨gg, 0, none⟩) (q.length + 1) cap) (q ++ [y]) w1 := by
  obtain ⟨g, c, e, h1, h2⟩ := h.s
  have hob : vs.ownBlock = some g := by rw [e]; rfl
  have hlv := h.m.lt
  have hk : Kept (fun b => b = g) wr w1 := ((Kept.refl (fun b => b = g) wr).of_below hb).grown hgrow (fun k _ ek => by rw [hob] at ek; injection ek with ek; exact ek.symm)
  refine ⟨h.z.kept hk (fun b hb' eb => by have := h.low b hb'; omega), h.low, h.m.kept hk (by omega), ⟨gg, cap, by simp, ?_, by simpa using hown⟩, h.k.trans hk (fun i _ hi => by omega)⟩
  rcases hat with ha | ha
  · rw [hob] at ha; injection ha with ha; omega
  · have := hb.size; omega
end
def FewR (w : World) (H V s t : Nat) (l : List Arc) (e : Ending) (w' : World) : Prop := ∃ ds : List Int, e = .returned (.int .i64 (dAt ds t)) ∧ Lev V s l ds ∧ -1 ≤ dAt ds t ∧ dAt ds t ≤ V ∧ Kept (fun b => H ≤ b) w w'
end Go.Proofs.Qxb6605292a
