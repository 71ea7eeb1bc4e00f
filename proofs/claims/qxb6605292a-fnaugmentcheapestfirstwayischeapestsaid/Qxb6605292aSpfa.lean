/-
  The label-correcting search (augmentCheapest), plainly: labels ds, the order of reaching od, ghost times tm, a potential pt.
-/
import Derived.Test.Qxb6605292aDfs
import Derived.Test.Qxb6605292aAllow
namespace Go.Proofs.Qxb6605292a

/-- What a unit along arc a costs. -/
def costAt (l : List Arc) (a : Nat) : Int := match l[a]? with
  | some x => x.cost
  | none => 0
theorem costAt_get {l : List Arc} {a : Nat} (h : a < l.length) : costAt l a = l[a].cost := by unfold costAt; rw [List.getElem?_eq_getElem h]
theorem costAt_setRm (l : List Arc) (b : Nat) (r : Int) (a : Nat) : costAt (setRm l b r) a = costAt l a := by
  unfold costAt setRm
  rw [List.getElem?_modify]
  cases l[a]? with
  | none => rfl
  | some x => by_cases e : b = a <;> simp [e]
theorem costAt_pushAt (l : List Arc) (b a : Nat) : costAt (pushAt l b) a = costAt l a := by unfold pushAt; rw [costAt_setRm, costAt_setRm]
theorem costAt_pushAll (l : List Arc) (ar : List Nat) (a : Nat) : costAt (pushAll l ar) a = costAt l a := by
  induction ar generalizing l with
  | nil => rfl
  | cons b ar ih => show costAt (pushAll (pushAt l b) ar) a = _; rw [ih, costAt_pushAt]

/-- The costs of a network. -/
structure Cst (n : Nat) (l : List Arc) : Prop where
  lo : ∀ a, -1 ≤ costAt l a
  hi : ∀ a, costAt l a ≤ 1
  tw : ∀ a, a < l.length → costAt l (twin a) = - costAt l a
  src : ∀ a, a < l.length → toAt l a = ((2 * n : Nat) : Int) → 0 ≤ costAt l a
theorem Cst.pushAll {n : Nat} {l : List Arc} (h : Cst n l) (ar : List Nat) : Cst n (pushAll l ar) := by
  refine ⟨fun a => by rw [costAt_pushAll]; exact h.lo a, fun a => by rw [costAt_pushAll]; exact h.hi a, fun a ha => ?_, fun a ha ht => ?_⟩
  · rw [costAt_pushAll, costAt_pushAll]; rw [pushAll_len] at ha; exact h.tw a ha
  · rw [costAt_pushAll]; rw [pushAll_len] at ha; rw [toAt_pushAll] at ht; exact h.src a ha ht
/-- A potential: no arc with room between allowed nodes costs less than the step it makes. -/
structure Pot (n sink : Nat) (bl : Option (List Bool)) (l : List Arc) (pt : Nat → Int) : Prop where
  src : pt (2 * n) = 0
  lo : ∀ x, 0 ≤ pt x
  hi : ∀ x, pt x ≤ pt sink
  top : pt sink ≤ 2 * n
  arc : ∀ a x y : Nat, a < l.length → toAt l (twin a) = (x : Int) → toAt l a = (y : Int) → roomAt l a ≠ 0 → allowB n sink bl x = true → allowB n sink bl y = true → pt y ≤ pt x + costAt l a

def lbA (ds : List Int) (x : Nat) : Int := ds.getD x 0
theorem lbA_same {ds : List Int} {y : Nat} (h : y < ds.length) (d : Int) : lbA (ds.set y d) y = d := by unfold lbA; rw [List.getD_eq_getElem?_getD, List.getElem?_set_self h]; rfl
theorem lbA_ne (ds : List Int) {x y : Nat} (h : x ≠ y) (d : Int) : lbA (ds.set y d) x = lbA ds x := by unfold lbA; rw [List.getD_eq_getElem?_getD, List.getElem?_set_ne (Ne.symm h), ← List.getD_eq_getElem?_getD]
def phi (ds : List Int) (od : List Nat) (K : Nat) : Int := sumTo (fun x => if x ∈ od then lbA ds x else 513) K

/-- What the search holds: p of the queue are taken; arcs in Ex still wait. -/
structure SI (n sink : Nat) (bl : Option (List Bool)) (W : Int) (l : List Arc) (pt : Nat → Int) (sn vi ds qd : List Int) (q od : List Nat) (tm : Nat → Nat) (k p : Nat) (Ex : Nat → Nat → Prop) : Prop where
  snl : sn.length = 2 * n + 1
  vil : vi.length = 2 * n + 1
  dsl : ds.length = 2 * n + 1
  qdl : qd.length = 2 * n + 1
  nd : od.Nodup
  src : 2 * n ∈ od
  lt : ∀ x ∈ od, x < 2 * n + 1
  seen : ∀ x, x < 2 * n + 1 → (sn[x]? = some W ↔ x ∈ od)
  al : ∀ x ∈ od, allowB n sink bl x = true
  d0 : lbA ds (2 * n) = 0
  lo : ∀ x ∈ od, pt x ≤ lbA ds x
  hi : ∀ x ∈ od, lbA ds x + 1 ≤ od.length
  tree : ∀ x ∈ od, x ≠ 2 * n → ∃ a u : Nat, vi[x]? = some (a : Int) ∧ a < l.length ∧ toAt l a = (x : Int) ∧ toAt l (twin a) = (u : Int) ∧ u ∈ od ∧ u ≠ sink ∧ roomAt l a ≠ 0 ∧ lbA ds u + costAt l a ≤ lbA ds x ∧ (lbA ds u - pt u < lbA ds x - pt x ∨ (lbA ds u - pt u = lbA ds x - pt x ∧ tm u < tm x))
  tick : ∀ x ∈ od, tm x < k
  pq : p ≤ q.length
  qin : ∀ x ∈ q, x ∈ od
  qnd : (q.drop p).Nodup
  qw : ∀ x, x < 2 * n → (qd[x]? = some W ↔ x ∈ q.drop p)
  done : ∀ x ∈ od, x ∉ q.drop p → x ≠ sink → ∀ a y : Nat, a < l.length → toAt l (twin a) = (x : Int) → toAt l a = (y : Int) → roomAt l a ≠ 0 → y ≠ 2 * n → allowB n sink bl y = true → ¬ Ex x a → y ∈ od ∧ lbA ds y ≤ lbA ds x + costAt l a
  ms : (q.length : Int) + phi ds od (2 * n + 1) ≤ 263170

def NoEx : Nat → Nat → Prop := fun _ _ => False
/-- The arcs of v behind the first j of its row. -/
def ExJ (v : Nat) (row : List Int) (j : Nat) : Nat → Nat → Prop := fun x a => x = v ∧ (a : Int) ∉ row.take j

theorem sumTo_le {f : Nat → Int} {c : Int} {K : Nat} (h : ∀ j, j < K → f j ≤ c) : sumTo f K ≤ c * K := by
  induction K with
  | zero => simp [sumTo]
  | succ K ih =>
    unfold sumTo
    have h1 := ih (fun j hj => h j (by omega))
    have h2 := h K (by omega)
    have : c * ((K + 1 : Nat) : Int) = c * K + c := by rw [Int.natCast_add, Int.mul_add]; simp
    omega
section
variable {n sink : Nat} {bl : Option (List Bool)} {W : Int} {l : List Arc} {pt : Nat → Int} {sn vi ds qd : List Int} {q od : List Nat} {tm : Nat → Nat} {k p : Nat} {Ex : Nat → Nat → Prop}
theorem SI.start (hn : n ≤ 256) (hp : Pot n sink bl l pt) (h1 : sn.length = 2 * n + 1) (h2 : vi.length = 2 * n + 1) (h3 : ds.length = 2 * n + 1) (h4 : qd.length = 2 * n + 1) (hs : ∀ (x : Nat) (y : Int), sn[x]? = some y → y < W) (hq : ∀ (x : Nat) (y : Int), qd[x]? = some y → y < W) :
    SI n sink bl W l pt (sn.set (2 * n) W) vi (ds.set (2 * n) 0) qd [2 * n] [2 * n] (fun _ => 0) 1 0 NoEx := by
  have hd0 : lbA (ds.set (2 * n) 0) (2 * n) = 0 := lbA_same (by omega) 0
  refine ⟨by rw [List.length_set]; exact h1, h2, by rw [List.length_set]; exact h3, h4, by simp, by simp, fun x hx => ?_, fun x hx => ?_, fun x hx => ?_, hd0, fun x hx => ?_, fun x hx => ?_, fun x hx hne => ?_, fun x hx => by omega, Nat.zero_le _, fun x hx => hx, by simp, fun x hx => ?_, fun x hx hnq => ?_, ?_⟩
  · rw [List.mem_singleton] at hx; omega
  · constructor
    · intro h
      by_cases e : x = 2 * n
      · subst e; exact List.mem_singleton.2 rfl
      · rw [List.getElem?_set_ne (Ne.symm e)] at h
        have := hs x W h
        omega
    · intro h
      rw [List.mem_singleton] at h
      subst h
      rw [List.getElem?_set_self (by omega)]
  · rw [List.mem_singleton] at hx; subst hx; simp [allowB]
  · rw [List.mem_singleton] at hx; subst hx; rw [hd0, hp.src]; exact Int.le_refl _
  · rw [List.mem_singleton] at hx; subst hx; rw [hd0]; simp
  · rw [List.mem_singleton] at hx; exact absurd hx hne
  · constructor
    · intro h
      have := hq x W h
      omega
    · intro h
      rw [List.drop_zero, List.mem_singleton] at h
      omega
  · exact absurd hx hnq
  · have : phi (ds.set (2 * n) 0) [2 * n] (2 * n + 1) ≤ 513 * ((2 * n + 1 : Nat) : Int) := by
      refine sumTo_le (fun j hj => ?_)
      split
      · rename_i h
        rw [List.mem_singleton] at h
        subst h
        rw [hd0]; omega
      · exact Int.le_refl _
    simp only [List.length_singleton]
    omega
theorem SI.exmono (h : SI n sink bl W l pt sn vi ds qd q od tm k p Ex) {Ex' : Nat → Nat → Prop} (he : ∀ x a, x ≠ sink → a < l.length → toAt l (twin a) = (x : Int) → Ex x a → Ex' x a) : SI n sink bl W l pt sn vi ds qd q od tm k p Ex' :=
  ⟨h.snl, h.vil, h.dsl, h.qdl, h.nd, h.src, h.lt, h.seen, h.al, h.d0, h.lo, h.hi, h.tree, h.tick, h.pq, h.qin, h.qnd, h.qw, fun x h1 h2 h3 a y h4 h5 h6 h7 h8 h9 h10 => h.done x h1 h2 h3 a y h4 h5 h6 h7 h8 h9 (fun hh => h10 (he x a h3 h4 h5 hh)), h.ms⟩
theorem drop_at {q : List Nat} {p v : Nat} (h : q[p]? = some v) : q.drop p = v :: q.drop (p + 1) := by
  obtain ⟨hl, e⟩ := List.getElem?_eq_some_iff.1 h
  rw [List.drop_eq_getElem_cons hl, e]
theorem SI.pop (h : SI n sink bl W l pt sn vi ds qd q od tm k p NoEx) (hW : 0 < W) {v : Nat} (hv : q[p]? = some v) (row : List Int) : SI n sink bl W l pt sn vi ds (qd.set v 0) q od tm k (p + 1) (ExJ v row 0) ∧ v ∈ od ∧ v ∉ q.drop (p + 1) := by
  have hd := drop_at hv
  have hnd := h.qnd
  rw [hd, List.nodup_cons] at hnd
  refine ⟨⟨h.snl, h.vil, h.dsl, by rw [List.length_set]; exact h.qdl, h.nd, h.src, h.lt, h.seen, h.al, h.d0, h.lo, h.hi, h.tree, h.tick, (List.getElem?_eq_some_iff.1 hv).1, h.qin, hnd.2, fun x hx => ?_, ?_, h.ms⟩, h.qin v (List.mem_of_getElem? hv), hnd.1⟩
  · by_cases e : x = v
    · subst e
      have hl := h.qdl
      rw [List.getElem?_set_self (by omega)]
      constructor
      · intro hh
        injection hh with hh
        omega
      · intro hh
        exact absurd hh hnd.1
    · rw [List.getElem?_set_ne (Ne.symm e), h.qw x hx, hd, List.mem_cons]
      constructor
      · rintro (hh | hh)
        · exact absurd hh e
        · exact hh
      · exact .inr
  · intro x h1 h2 h3 a y h4 h5 h6 h7 h8 h9 h10
    have hxv : x ≠ v := fun e => h10 ⟨e, by simp⟩
    exact h.done x h1 (by rw [hd, List.mem_cons]; rintro (hh | hh); exact hxv hh; exact h2 hh) h3 a y h4 h5 h6 h7 h8 h9 id
theorem exj_succ {v j a : Nat} {row : List Int} (hj : row[j]? = some (a : Int)) {x b : Nat} (h : ¬ ExJ v row (j + 1) x b) : ¬ ExJ v row j x b ∨ (x = v ∧ b = a) := by
  obtain ⟨hl, e⟩ := List.getElem?_eq_some_iff.1 hj
  by_cases hx : x = v
  · by_cases hb : b = a
    · exact .inr ⟨hx, hb⟩
    · left
      intro hh
      apply h
      refine ⟨hx, fun hm => hh.2 ?_⟩
      rw [List.take_add_one, hj] at hm
      rcases List.mem_append.1 hm with hm | hm
      · exact hm
      · simp at hm
        omega
  · exact .inl (fun hh => hx hh.1)
/-- An arc that leads no further. -/
theorem SI.skip {v j a y : Nat} {row : List Int} (h : SI n sink bl W l pt sn vi ds qd q od tm k p (ExJ v row j)) (hj : row[j]? = some (a : Int)) (hy : toAt l a = (y : Int)) (hc : roomAt l a = 0 ∨ y = 2 * n ∨ allowB n sink bl y = false ∨ (y ∈ od ∧ lbA ds y ≤ lbA ds v + costAt l a)) : SI n sink bl W l pt sn vi ds qd q od tm k p (ExJ v row (j + 1)) := by
  refine ⟨h.snl, h.vil, h.dsl, h.qdl, h.nd, h.src, h.lt, h.seen, h.al, h.d0, h.lo, h.hi, h.tree, h.tick, h.pq, h.qin, h.qnd, h.qw, ?_, h.ms⟩
  intro x h1 h2 h3 b z h4 h5 h6 h7 h8 h9 h10
  rcases exj_succ hj h10 with hh | ⟨rfl, rfl⟩
  · exact h.done x h1 h2 h3 b z h4 h5 h6 h7 h8 h9 hh
  · have hzy : z = y := by omega
    subst hzy
    rcases hc with hc | hc | hc | hc
    · exact absurd hc h7
    · exact absurd hc h8
    · rw [hc] at h9; cases h9
    · exact hc
theorem SI.rowDone {v : Nat} {nodes : List (List Int)} {source : List Int} (h : SI n sink bl W l pt sn vi ds qd q od tm k p (ExJ v (nodes.getD v []) (nodes.getD v []).length)) (hn : Nw n l nodes source) : SI n sink bl W l pt sn vi ds qd q od tm k p NoEx := by
  refine h.exmono (fun x a _ ha ht he => ?_)
  obtain ⟨rfl, hm⟩ := he
  rw [List.take_length] at hm
  exact absurd (hn.all a x ha ht) hm
theorem SI.sinkDone {row : List Int} {j : Nat} (h : SI n sink bl W l pt sn vi ds qd q od tm k p (ExJ sink row j)) : SI n sink bl W l pt sn vi ds qd q od tm k p NoEx :=
  h.exmono (fun _ _ hx _ _ he => absurd he.1 hx)
theorem SI.odlen (h : SI n sink bl W l pt sn vi ds qd q od tm k p Ex) : od.length ≤ 2 * n + 1 := nodup_len h.nd h.lt
/-- A cheaper way to y is found. -/
theorem SI.relax {v j a y : Nat} {row : List Int} {d : Int} {q' od' : List Nat} {qd' : List Int} (hn : n ≤ 256) (hC : Cst n l) (hP : Pot n sink bl l pt) (h : SI n sink bl W l pt sn vi ds qd q od tm k p (ExJ v row j)) (hj : row[j]? = some (a : Int)) (hv : v ∈ od) (hvs : v ≠ sink) (hvp : v ∉ q.drop p)
    (ha : a < l.length) (ht : toAt l (twin a) = (v : Int)) (hy : toAt l a = (y : Int)) (hyl : y < 2 * n + 1) (hr : roomAt l a ≠ 0) (hy0 : y ≠ 2 * n) (hya : allowB n sink bl y = true) (hd : d = lbA ds v + costAt l a)
    (hod : (y ∈ od ∧ od' = od ∧ d < lbA ds y) ∨ (y ∉ od ∧ od' = od ++ [y])) (hq : (y ∈ q.drop p ∧ q' = q ∧ qd' = qd) ∨ (y ∉ q.drop p ∧ q' = q ++ [y] ∧ qd' = qd.set y W)) :
    SI n sink bl W l pt (sn.set y W) (vi.set y (a : Int)) (ds.set y d) qd' q' od' (fun x => if x = y then k else tm x) (k + 1) p (ExJ v row (j + 1)) ∧ v ∈ od' ∧ v ∉ q'.drop p ∧ (q'.length : Int) + phi (ds.set y d) od' (2 * n + 1) ≤ (q.length : Int) + phi ds od (2 * n + 1) := by
  have hpa := hP.arc a v y ha ht hy hr (h.al v hv) hya
  have hlv := h.lo v hv
  have hhv := h.hi v hv
  have hc1 := hC.hi a
  have hyv : y ≠ v := by
    rintro rfl
    rcases hod with ⟨_, _, h3⟩ | ⟨h3, _⟩
    · omega
    · exact h3 hv
  have hmem : ∀ x, x ∈ od' ↔ x ∈ od ∨ x = y := by
    intro x
    rcases hod with ⟨h1, rfl, _⟩ | ⟨h1, rfl⟩
    · constructor
      · exact .inl
      · rintro (hh | rfl)
        · exact hh
        · exact h1
    · simp
  have hnd : od'.Nodup := by
    rcases hod with ⟨h1, rfl, _⟩ | ⟨h1, rfl⟩
    · exact h.nd
    · rw [List.nodup_append]
      exact ⟨h.nd, by simp, fun b hb c hc => by rw [List.mem_singleton] at hc; subst hc; exact fun e => h1 (e ▸ hb)⟩
  have hlen : od.length ≤ od'.length := by
    rcases hod with ⟨h1, rfl, _⟩ | ⟨h1, rfl⟩
    · exact Nat.le_refl _
    · simp
  have hlt : ∀ x ∈ od', x < 2 * n + 1 := fun x hx => by
    rcases (hmem x).1 hx with hx | rfl
    · exact h.lt x hx
    · exact hyl
  have hol : od'.length ≤ 2 * n + 1 := nodup_len hnd hlt
  have hd1 : d + 1 ≤ od'.length := by
    rcases hod with ⟨h1, rfl, h3⟩ | ⟨h1, rfl⟩
    · have := h.hi y h1; omega
    · simp; omega
  have hdy : lbA (ds.set y d) y = d := lbA_same (by rw [h.dsl]; exact hyl) d
  have hdx : ∀ x, x ≠ y → lbA (ds.set y d) x = lbA ds x := fun x hx => lbA_ne ds hx d
  have hdle : ∀ x ∈ od, lbA (ds.set y d) x ≤ lbA ds x := by
    intro x hx
    by_cases e : x = y
    · subst e
      rw [hdy]
      rcases hod with ⟨_, _, h3⟩ | ⟨h3, _⟩
      · omega
      · exact absurd hx h3
    · rw [hdx x e]; exact Int.le_refl _
  have hdrop : ∀ x, x ∈ q'.drop p ↔ x ∈ q.drop p ∨ x = y := by
    intro x
    have hpq := h.pq
    rcases hq with ⟨h1, rfl, _⟩ | ⟨h1, rfl, _⟩
    · constructor
      · exact .inl
      · rintro (hh | rfl)
        · exact hh
        · exact h1
    · rw [List.drop_append_of_le_length hpq, List.mem_append, List.mem_singleton]
  have hphi : phi (ds.set y d) od' (2 * n + 1) ≤ phi ds od (2 * n + 1) - 1 := by
    unfold phi
    have hs := sumTo_one (f := fun x => if x ∈ od then lbA ds x else 513) (g := fun x => if x ∈ od' then lbA (ds.set y d) x else 513) (i := y) (d := d - (if y ∈ od then lbA ds y else 513)) (by
      show (if y ∈ od' then lbA (ds.set y d) y else 513) = (if y ∈ od then lbA ds y else 513) + _
      rw [if_pos ((hmem y).2 (.inr rfl)), hdy]; omega) (fun x hx => by
      show (if x ∈ od' then lbA (ds.set y d) x else 513) = (if x ∈ od then lbA ds x else 513)
      by_cases e : x ∈ od
      · rw [if_pos e, if_pos ((hmem x).2 (.inl e)), hdx x hx]
      · rw [if_neg e, if_neg (fun hh => e (((hmem x).1 hh).resolve_right hx))]) (2 * n + 1)
    rw [hs, if_pos hyl]
    rcases hod with ⟨h1, rfl, h3⟩ | ⟨h1, rfl⟩
    · rw [if_pos h1]; omega
    · rw [if_neg h1]; omega
  have hsum : (q'.length : Int) + phi (ds.set y d) od' (2 * n + 1) ≤ (q.length : Int) + phi ds od (2 * n + 1) := by
    rcases hq with ⟨_, rfl, _⟩ | ⟨_, rfl, _⟩
    · omega
    · rw [List.length_append, List.length_singleton]; omega
  refine ⟨⟨by rw [List.length_set]; exact h.snl, by rw [List.length_set]; exact h.vil, by rw [List.length_set]; exact h.dsl, ?_, hnd, (hmem _).2 (.inl h.src), hlt, fun x hx => ?_, fun x hx => ?_, ?_, fun x hx => ?_, fun x hx => ?_, fun x hx hx0 => ?_, fun x hx => ?_, ?_, fun x hx => ?_, ?_, fun x hx => ?_, ?_, by have := h.ms; omega⟩, (hmem v).2 (.inl hv), fun hh => ((hdrop v).1 hh).elim hvp (Ne.symm hyv), hsum⟩
  · rcases hq with ⟨_, _, rfl⟩ | ⟨_, _, rfl⟩
    · exact h.qdl
    · rw [List.length_set]; exact h.qdl
  · rw [hmem]
    by_cases e : x = y
    · subst e
      rw [List.getElem?_set_self (by rw [h.snl]; exact hx)]
      exact ⟨fun _ => .inr rfl, fun _ => rfl⟩
    · rw [List.getElem?_set_ne (Ne.symm e), h.seen x hx]
      exact ⟨.inl, fun hh => hh.resolve_right e⟩
  · rcases (hmem x).1 hx with hx | rfl
    · exact h.al x hx
    · exact hya
  · rw [hdx _ (Ne.symm hy0)]; exact h.d0
  · by_cases e : x = y
    · subst e; rw [hdy]; omega
    · rw [hdx x e]
      exact h.lo x (((hmem x).1 hx).resolve_right e)
  · by_cases e : x = y
    · subst e; rw [hdy]; exact hd1
    · rw [hdx x e]
      have := h.hi x (((hmem x).1 hx).resolve_right e)
      omega
  · by_cases e : x = y
    · subst e
      refine ⟨a, v, List.getElem?_set_self (by rw [h.vil]; exact hyl), ha, hy, ht, (hmem v).2 (.inl hv), hvs, hr, by rw [hdy, hdx v (Ne.symm hyv)]; omega, ?_⟩
      rw [hdy, hdx v (Ne.symm hyv), if_pos rfl, if_neg (Ne.symm hyv)]
      have := h.tick v hv
      omega
    · obtain ⟨b, u, t1, t2, t3, t4, t5, t6, t7, t8, t9⟩ := h.tree x (((hmem x).1 hx).resolve_right e) hx0
      refine ⟨b, u, by rw [List.getElem?_set_ne (Ne.symm e)]; exact t1, t2, t3, t4, (hmem u).2 (.inl t5), t6, t7, ?_, ?_⟩
      · rw [hdx x e]
        have := hdle u t5
        omega
      · rw [hdx x e, if_neg e]
        by_cases e2 : u = y
        · subst e2
          rw [hdy]
          left
          rcases hod with ⟨_, _, h3⟩ | ⟨h3, _⟩
          · omega
          · exact absurd t5 h3
        · rw [hdx u e2, if_neg e2]; exact t9
  · show (if x = y then k else tm x) < k + 1
    split
    · omega
    · rename_i e
      have := h.tick x (((hmem x).1 hx).resolve_right e)
      omega
  · have := h.pq
    rcases hq with ⟨_, rfl, _⟩ | ⟨_, rfl, _⟩
    · exact this
    · rw [List.length_append]; omega
  · rcases hq with ⟨_, rfl, _⟩ | ⟨_, rfl, _⟩
    · exact (hmem x).2 (.inl (h.qin x hx))
    · rcases List.mem_append.1 hx with hx | hx
      · exact (hmem x).2 (.inl (h.qin x hx))
      · exact (hmem x).2 (.inr (List.mem_singleton.1 hx))
  · have hpq := h.pq
    rcases hq with ⟨_, rfl, _⟩ | ⟨h1, rfl, _⟩
    · exact h.qnd
    · rw [List.drop_append_of_le_length hpq, List.nodup_append]
      exact ⟨h.qnd, by simp, fun b hb c hc => by rw [List.mem_singleton] at hc; subst hc; exact fun e => h1 (e ▸ hb)⟩
  · rw [hdrop]
    rcases hq with ⟨h1, rfl, rfl⟩ | ⟨h1, rfl, rfl⟩
    · rw [h.qw x hx]
      constructor
      · exact .inl
      · rintro (hh | rfl)
        · exact hh
        · exact h1
    · by_cases e : x = y
      · subst e
        rw [List.getElem?_set_self (by rw [h.qdl]; exact hyl)]
        exact ⟨fun _ => .inr rfl, fun _ => rfl⟩
      · rw [List.getElem?_set_ne (Ne.symm e), h.qw x hx]
        exact ⟨.inl, fun hh => hh.resolve_right e⟩
  · intro x h1 h2 h3 b z h4 h5 h6 h7 h8 h9 h10
    rw [hdrop] at h2
    have hxy : x ≠ y := fun e => h2 (.inr e)
    have hxo : x ∈ od := ((hmem x).1 h1).resolve_right hxy
    rw [hdx x hxy]
    rcases exj_succ hj h10 with hh | ⟨rfl, rfl⟩
    · obtain ⟨g1, g2⟩ := h.done x hxo (fun hh => h2 (.inl hh)) h3 b z h4 h5 h6 h7 h8 h9 hh
      have := hdle z g1
      exact ⟨(hmem z).2 (.inl g1), by omega⟩
    · have hzy : z = y := by omega
      subst hzy
      exact ⟨(hmem z).2 (.inr rfl), by rw [hdy]; omega⟩
theorem SI.phi0 (h : SI n sink bl W l pt sn vi ds qd q od tm k p Ex) (hP : Pot n sink bl l pt) : 0 ≤ phi ds od (2 * n + 1) := by
  refine sumTo_nonneg (fun j _ => ?_)
  show 0 ≤ (if j ∈ od then lbA ds j else 513)
  split
  · rename_i hj
    have h1 := h.lo j hj
    have h2 := hP.lo j
    omega
  · omega
theorem SI.qlen (h : SI n sink bl W l pt sn vi ds qd q od tm k p Ex) (hP : Pot n sink bl l pt) : q.length ≤ 263170 := by
  have := h.phi0 hP
  have := h.ms
  omega
/-- The way back from a node that is reached. -/
theorem SI.back (h : SI n sink bl W l pt sn vi ds qd q od tm k p Ex) : ∀ (r t x : Nat), x ∈ od → lbA ds x - pt x = r → tm x = t → ∃ ns ar, BW l vi x (2 * n) ns ar ∧ (∀ z ∈ ns, z ∈ od ∧ (lbA ds z - pt z < r ∨ (lbA ds z - pt z = r ∧ tm z ≤ t))) ∧ (∀ a ∈ ar, ∃ u z : Nat, toAt l a = (z : Int) ∧ toAt l (twin a) = (u : Int) ∧ z ∈ ns ∧ u ∈ ns ∧ u ≠ sink ∧ z ≠ 2 * n ∧ lbA ds u + costAt l a ≤ lbA ds z) := by
  intro r
  induction r using Nat.strongRecOn with
  | _ r ihr =>
    intro t
    induction t using Nat.strongRecOn with
    | _ t iht =>
      intro x hx hr ht
      by_cases hx0 : x = 2 * n
      · subst hx0
        exact ⟨[2 * n], [], BW.nil _ _ _, fun z hz => by rw [List.mem_singleton] at hz; subst hz; exact ⟨hx, .inr ⟨hr, by omega⟩⟩, fun a ha => by cases ha⟩
      · obtain ⟨a, u, t1, t2, t3, t4, t5, t6, t7, t8, t9⟩ := h.tree x hx hx0
        have hu := h.lo u t5
        have key : ∃ ns ar, BW l vi u (2 * n) ns ar ∧ (∀ z ∈ ns, z ∈ od ∧ (lbA ds z - pt z < r ∨ (lbA ds z - pt z = r ∧ tm z < t))) ∧ (∀ a ∈ ar, ∃ u z : Nat, toAt l a = (z : Int) ∧ toAt l (twin a) = (u : Int) ∧ z ∈ ns ∧ u ∈ ns ∧ u ≠ sink ∧ z ≠ 2 * n ∧ lbA ds u + costAt l a ≤ lbA ds z) := by
          rcases t9 with t9 | ⟨t9, t10⟩
          · obtain ⟨ns, ar, g1, g2, g3⟩ := ihr (lbA ds u - pt u).toNat (by omega) (tm u) u t5 (by omega) rfl
            refine ⟨ns, ar, g1, fun z hz => ⟨(g2 z hz).1, .inl ?_⟩, g3⟩
            have := (g2 z hz).2
            omega
          · obtain ⟨ns, ar, g1, g2, g3⟩ := iht (tm u) (by omega) u t5 (by omega) rfl
            refine ⟨ns, ar, g1, fun z hz => ⟨(g2 z hz).1, ?_⟩, g3⟩
            have := (g2 z hz).2
            omega
        obtain ⟨ns, ar, g1, g2, g3⟩ := key
        refine ⟨x :: ns, a :: ar, g1.cons (fun hm => ?_) t1 t2 t3 t4 t7, fun z hz => ?_, fun b hb => ?_⟩
        · have := (g2 x hm).2
          omega
        · rcases List.mem_cons.1 hz with rfl | hz
          · exact ⟨hx, .inr ⟨hr, by omega⟩⟩
          · have := (g2 z hz).2
            exact ⟨(g2 z hz).1, by omega⟩
        · rcases List.mem_cons.1 hb with rfl | hb
          · exact ⟨u, x, t3, t4, List.mem_cons_self, List.mem_cons_of_mem _ (List.mem_of_getElem? g1.hd), t6, hx0, t8⟩
          · obtain ⟨u', z, c1, c2, c3, c4, c5⟩ := g3 b hb
            exact ⟨u', z, c1, c2, List.mem_cons_of_mem _ c3, List.mem_cons_of_mem _ c4, c5⟩
end
end Go.Proofs.Qxb6605292a
