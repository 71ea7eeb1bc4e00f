/-
  The law's bucket search (zzCheapest), plainly: labels ds, done dn, buckets B; M is a bound from below.
-/
import Derived.Test.Qxb6605292aSpfa
namespace Go.Proofs.Qxb6605292a

def tot (B : List (List Nat)) : Nat := (B.map List.length).sum
theorem tot_push : ∀ (B : List (List Nat)) (i y : Nat), i < B.length → tot (B.set i (B.getD i [] ++ [y])) = tot B + 1 := by
  intro B
  induction B with
  | nil => intro i y h; simp at h
  | cons b B ih =>
    intro i y h
    cases i with
    | zero => simp [tot]; omega
    | succ i =>
      have := ih i y (by simpa using h)
      simp [tot] at this ⊢
      omega
theorem len_tot (B : List (List Nat)) (i : Nat) : (B.getD i []).length ≤ tot B := by
  induction B generalizing i with
  | nil => simp [tot]
  | cons b B ih =>
    cases i with
    | zero => simp [tot]
    | succ i =>
      have := ih i
      simp [tot] at this ⊢
      omega
def psi (ds : List Int) (K : Nat) : Int := sumTo (fun x => if lbA ds x = 1073741824 then 515 else lbA ds x) K
structure DB (V s : Nat) (l : List Arc) (M : Nat → Int) (ds : List Int) (dn : List Bool) (B : List (List Nat)) (d j : Nat) (Ex : Nat → Nat → Prop) : Prop where
  dl : ds.length = V
  nl : dn.length = V
  bl : B.length = V + 1
  rng : ∀ x, x < V → lbA ds x = 1073741824 ∨ (0 ≤ lbA ds x ∧ lbA ds x ≤ V)
  s0 : lbA ds s = 0
  lo : ∀ x, x < V → lbA ds x ≠ 1073741824 → M x ≤ lbA ds x
  blt : ∀ i x : Nat, x ∈ B.getD i [] → x < V
  pend : ∀ x, x < V → lbA ds x ≠ 1073741824 → dn.getD x false = false → (d : Int) ≤ lbA ds x ∧ ∃ p : Nat, (B.getD (lbA ds x).toNat [])[p]? = some x ∧ (lbA ds x = d → j ≤ p)
  dnd : ∀ x, x < V → dn.getD x false = true → lbA ds x ≤ d
  done : ∀ x, x < V → dn.getD x false = true → ∀ a y : Nat, a < l.length → toAt l (twin a) = (x : Int) → toAt l a = (y : Int) → roomAt l a ≠ 0 → ¬ Ex x a → lbA ds x + costAt l a ≤ V → lbA ds y ≤ lbA ds x + costAt l a
  ms : (tot B : Int) + psi ds V ≤ 515 * V + 1
/-- The arcs of x below m still wait. -/
def ExM (x m : Nat) : Nat → Nat → Prop := fun z a => z = x ∧ a < m
/-- What the arcs with room cost, and the bound from below. -/
structure Edg (V s : Nat) (l : List Arc) (M : Nat → Int) : Prop where
  c0 : ∀ a, a < l.length → roomAt l a ≠ 0 → 0 ≤ costAt l a
  c1 : ∀ a, a < l.length → roomAt l a ≠ 0 → costAt l a ≤ 1
  ms : M s ≤ 0
  arc : ∀ a x y : Nat, a < l.length → toAt l (twin a) = (x : Int) → toAt l a = (y : Int) → roomAt l a ≠ 0 → M y ≤ M x + costAt l a
theorem getD_setB {dn : List Bool} {x : Nat} (h : x < dn.length) (z : Nat) : (dn.set x true).getD z false = if z = x then true else dn.getD z false := by
  rw [List.getD_eq_getElem?_getD]
  by_cases e : z = x
  · subst e; rw [List.getElem?_set_self h, if_pos rfl]; rfl
  · rw [List.getElem?_set_ne (Ne.symm e), if_neg e, ← List.getD_eq_getElem?_getD]
theorem getD_setL {B : List (List Nat)} {i : Nat} (h : i < B.length) (r : List Nat) (z : Nat) : (B.set i r).getD z [] = if z = i then r else B.getD z [] := by
  rw [List.getD_eq_getElem?_getD]
  by_cases e : z = i
  · subst e; rw [List.getElem?_set_self h, if_pos rfl]; rfl
  · rw [List.getElem?_set_ne (Ne.symm e), if_neg e, ← List.getD_eq_getElem?_getD]
section
variable {V s : Nat} {l : List Arc} {M : Nat → Int} {ds : List Int} {dn : List Bool} {B : List (List Nat)} {d j : Nat} {Ex : Nat → Nat → Prop}
theorem DB.start (hs : s < V) (hM : Edg V s l M) : DB V s l M ((List.replicate V 1073741824).set s 0) (List.replicate V false) ((List.replicate (V + 1) []).set 0 [s]) 0 0 NoEx := by
  have h0 : lbA ((List.replicate V 1073741824).set s 0) s = 0 := lbA_same (by simpa using hs) 0
  have h1 : ∀ x, x < V → x ≠ s → lbA ((List.replicate V 1073741824).set s 0) x = 1073741824 := fun x hx hne => by
    rw [lbA_ne _ hne]
    unfold lbA
    simp [hx]
  have hb : ∀ i, ((List.replicate (V + 1) ([] : List Nat)).set 0 [s]).getD i [] = if i = 0 then [s] else [] := fun i => by
    rw [getD_setL (by simp)]
    split
    · rfl
    · rw [List.getD_eq_getElem?_getD, List.getElem?_replicate]
      split <;> rfl
  have hn : ∀ x, (List.replicate V false).getD x false = false := fun x => by
    rw [List.getD_eq_getElem?_getD, List.getElem?_replicate]
    split <;> rfl
  refine ⟨by simp, by simp, by simp, fun x hx => ?_, h0, fun x hx hne => ?_, fun i x hx => ?_, fun x hx hne _ => ?_, fun x hx hd => ?_, fun x hx hd => ?_, ?_⟩
  · by_cases e : x = s
    · subst e; right; rw [h0]; omega
    · exact .inl (h1 x hx e)
  · by_cases e : x = s
    · subst e; rw [h0]; exact hM.ms
    · exact absurd (h1 x hx e) hne
  · rw [hb] at hx
    split at hx
    · rw [List.mem_singleton] at hx; omega
    · cases hx
  · by_cases e : x = s
    · subst e
      rw [h0]
      refine ⟨by omega, 0, ?_, fun _ => Nat.le_refl _⟩
      rw [hb]
      rfl
    · exact absurd (h1 x hx e) hne
  · rw [hn] at hd; cases hd
  · rw [hn] at hd; cases hd
  · have ht : tot ((List.replicate (V + 1) ([] : List Nat)).set 0 [s]) = 1 := by
      rw [List.replicate_succ, List.set_cons_zero]
      simp [tot]
    have hp : psi ((List.replicate V 1073741824).set s 0) V ≤ 515 * V := by
      refine sumTo_le (fun x hx => ?_)
      split
      · exact Int.le_refl _
      · rename_i hne
        by_cases e : x = s
        · subst e; rw [h0]; omega
        · exact absurd (h1 x hx e) hne
    rw [ht]
    omega
theorem DB.pass (h : DB V s l M ds dn B d j Ex) {x : Nat} (hx : (B.getD d [])[j]? = some x) (hc : dn.getD x false = true ∨ lbA ds x ≠ d) : DB V s l M ds dn B d (j + 1) Ex := by
  refine ⟨h.dl, h.nl, h.bl, h.rng, h.s0, h.lo, h.blt, fun z hz hne hdn => ?_, h.dnd, h.done, h.ms⟩
  obtain ⟨h1, p, h2, h3⟩ := h.pend z hz hne hdn
  refine ⟨h1, p, h2, fun e => ?_⟩
  have h4 := h3 e
  by_cases ep : p = j
  · subst ep
    have ed : (lbA ds z).toNat = d := by omega
    rw [ed, hx] at h2
    injection h2 with h2
    subst h2
    rcases hc with hc | hc
    · rw [hdn] at hc; cases hc
    · exact absurd e hc
  · omega
theorem DB.take (h : DB V s l M ds dn B d j NoEx) {x m : Nat} (hx : (B.getD d [])[j]? = some x) (hd : lbA ds x = d) (hm : l.length ≤ m) : DB V s l M ds (dn.set x true) B d (j + 1) (ExM x m) := by
  have hxV : x < V := h.blt d x (List.mem_of_getElem? hx)
  have hg := fun z => getD_setB (dn := dn) (x := x) (by rw [h.nl]; exact hxV) z
  refine ⟨h.dl, by rw [List.length_set]; exact h.nl, h.bl, h.rng, h.s0, h.lo, h.blt, fun z hz hne hdn => ?_, fun z hz hdn => ?_, fun z hz hdn a y h1 h2 h3 h4 h5 h6 => ?_, h.ms⟩
  · rw [hg] at hdn
    have hzx : z ≠ x := fun e => by rw [if_pos e] at hdn; cases hdn
    rw [if_neg hzx] at hdn
    obtain ⟨h1, p, h2, h3⟩ := h.pend z hz hne hdn
    refine ⟨h1, p, h2, fun e => ?_⟩
    have h4 := h3 e
    by_cases ep : p = j
    · subst ep
      have ed : (lbA ds z).toNat = d := by omega
      rw [ed, hx] at h2
      injection h2 with h2
      exact absurd h2.symm hzx
    · omega
  · rw [hg] at hdn
    by_cases e : z = x
    · subst e; omega
    · rw [if_neg e] at hdn; exact h.dnd z hz hdn
  · rw [hg] at hdn
    by_cases e : z = x
    · exact absurd ⟨e, by omega⟩ h5
    · rw [if_neg e] at hdn
      exact h.done z hz hdn a y h1 h2 h3 h4 id h6
/-- The arcs of x from a on are walked. -/
theorem DB.down {x m a : Nat} (h : DB V s l M ds dn B d j (ExM x m)) (hc : ∀ b y : Nat, a ≤ b → b < m → b < l.length → toAt l (twin b) = (x : Int) → toAt l b = (y : Int) → roomAt l b ≠ 0 → lbA ds x + costAt l b ≤ V → lbA ds y ≤ lbA ds x + costAt l b) : DB V s l M ds dn B d j (ExM x a) := by
  refine ⟨h.dl, h.nl, h.bl, h.rng, h.s0, h.lo, h.blt, h.pend, h.dnd, fun z hz hdn b y h1 h2 h3 h4 h5 h6 => ?_, h.ms⟩
  by_cases e : z = x ∧ b < m
  · obtain ⟨rfl, hb⟩ := e
    have hab : a ≤ b := by
      rcases Nat.lt_or_ge b a with hlt | hge
      · exact absurd ⟨rfl, hlt⟩ h5
      · exact hge
    exact hc b y hab hb h1 h2 h3 h4 h6
  · exact h.done z hz hdn b y h1 h2 h3 h4 e h6
theorem DB.rowEnd {x : Nat} (h : DB V s l M ds dn B d j (ExM x 0)) : DB V s l M ds dn B d j NoEx :=
  ⟨h.dl, h.nl, h.bl, h.rng, h.s0, h.lo, h.blt, h.pend, h.dnd, fun z hz hdn b y h1 h2 h3 h4 _ h6 => h.done z hz hdn b y h1 h2 h3 h4 (fun hh => Nat.not_lt_zero _ hh.2) h6, h.ms⟩
theorem DB.psi0 (h : DB V s l M ds dn B d j Ex) : 0 ≤ psi ds V := by
  refine sumTo_nonneg (fun x hx => ?_)
  show 0 ≤ (if lbA ds x = 1073741824 then (515 : Int) else lbA ds x)
  split
  · omega
  · have := h.rng x hx
    omega
theorem DB.tots (h : DB V s l M ds dn B d j Ex) (hV : V ≤ 513) (i : Nat) : (B.getD i []).length ≤ 264196 := by
  have h1 := len_tot B i
  have h2 := h.psi0
  have h3 := h.ms
  omega
theorem DB.relax {x y a : Nat} {nd : Int} (h : DB V s l M ds dn B d j Ex) (hV : V ≤ 513) (hM : Edg V s l M) (hxV : x < V) (hxd : dn.getD x false = true) (hx : lbA ds x = d) (hj : j ≤ (B.getD d []).length) (ha : a < l.length) (ht : toAt l (twin a) = (x : Int)) (hy : toAt l a = (y : Int)) (hyV : y < V) (hr : roomAt l a ≠ 0) (hnd : nd = (d : Int) + costAt l a) (hlt : nd < lbA ds y) (hle : nd ≤ V) :
    DB V s l M (ds.set y nd) dn (B.set nd.toNat (B.getD nd.toNat [] ++ [y])) d j Ex ∧ lbA (ds.set y nd) x = d ∧ ((B.set nd.toNat (B.getD nd.toNat [] ++ [y])).getD d []).length + psi (ds.set y nd) V ≤ (B.getD d []).length + psi ds V ∧ j ≤ ((B.set nd.toNat (B.getD nd.toNat [] ++ [y])).getD d []).length := by
  have hc0 := hM.c0 a ha hr
  have hc1 := hM.c1 a ha hr
  have hyx : y ≠ x := by rintro rfl; omega
  have hdy : lbA (ds.set y nd) y = nd := lbA_same (by rw [h.dl]; exact hyV) nd
  have hdx : ∀ z, z ≠ y → lbA (ds.set y nd) z = lbA ds z := fun z hz => lbA_ne ds hz nd
  have hyn : dn.getD y false = false := by
    cases hh : dn.getD y false with
    | false => rfl
    | true => have := h.dnd y hyV hh; omega
  have hi : nd.toNat < B.length := by rw [h.bl]; omega
  have hB := fun z => getD_setL (B := B) (i := nd.toNat) hi (B.getD nd.toNat [] ++ [y]) z
  have hBl : ∀ z, (B.getD z []).length ≤ ((B.set nd.toNat (B.getD nd.toNat [] ++ [y])).getD z []).length := fun z => by
    rw [hB]
    split
    · rename_i e; rw [e, List.length_append]; omega
    · exact Nat.le_refl _
  have hpsi : psi (ds.set y nd) V ≤ psi ds V - 1 := by
    unfold psi
    have hs := sumTo_one (f := fun x => if lbA ds x = 1073741824 then (515 : Int) else lbA ds x) (g := fun x => if lbA (ds.set y nd) x = 1073741824 then (515 : Int) else lbA (ds.set y nd) x) (i := y) (d := nd - (if lbA ds y = 1073741824 then (515 : Int) else lbA ds y)) (by
      show (if lbA (ds.set y nd) y = 1073741824 then (515 : Int) else lbA (ds.set y nd) y) = (if lbA ds y = 1073741824 then (515 : Int) else lbA ds y) + _
      rw [hdy, if_neg (by omega)]; omega) (fun z hz => by
      show (if lbA (ds.set y nd) z = 1073741824 then (515 : Int) else lbA (ds.set y nd) z) = (if lbA ds z = 1073741824 then (515 : Int) else lbA ds z)
      rw [hdx z hz]) V
    rw [hs, if_pos hyV]
    split <;> omega
  have htot := tot_push B nd.toNat y hi
  refine ⟨⟨by rw [List.length_set]; exact h.dl, h.nl, by rw [List.length_set]; exact h.bl, fun z hz => ?_, ?_, fun z hz hne => ?_, fun i z hz => ?_, fun z hz hne hdn => ?_, fun z hz hdn => ?_, fun z hz hdn b u h1 h2 h3 h4 h5 h6 => ?_, ?_⟩, by rw [hdx x (Ne.symm hyx)]; exact hx, ?_, Nat.le_trans hj (hBl d)⟩
  · by_cases e : z = y
    · subst e; right; rw [hdy]; omega
    · rw [hdx z e]; exact h.rng z hz
  · have hsy : s ≠ y := by
      rintro rfl
      have := h.s0
      omega
    rw [hdx s hsy]; exact h.s0
  · by_cases e : z = y
    · subst e
      rw [hdy]
      have h1 := hM.arc a x z ha ht hy hr
      have h2 := h.lo x hxV (by omega)
      omega
    · rw [hdx z e] at hne ⊢
      exact h.lo z hz hne
  · rw [hB] at hz
    split at hz
    · rcases List.mem_append.1 hz with hz | hz
      · exact h.blt _ z hz
      · rw [List.mem_singleton] at hz; omega
    · exact h.blt i z hz
  · by_cases e : z = y
    · subst e
      rw [hdy]
      refine ⟨by omega, (B.getD nd.toNat []).length, ?_, fun hh => ?_⟩
      · rw [hB, if_pos rfl, List.getElem?_append_right (Nat.le_refl _), Nat.sub_self]
        rfl
      · have : nd.toNat = d := by omega
        rw [this]; exact hj
    · rw [hdx z e] at hne ⊢
      obtain ⟨h1, p, h2, h3⟩ := h.pend z hz hne hdn
      refine ⟨h1, p, ?_, h3⟩
      rw [hB]
      split
      · rename_i e2
        rw [e2] at h2
        rw [List.getElem?_append_left (List.getElem?_eq_some_iff.1 h2).1]
        exact h2
      · exact h2
  · have e : z ≠ y := fun e => by subst e; rw [hyn] at hdn; cases hdn
    rw [hdx z e]; exact h.dnd z hz hdn
  · have e : z ≠ y := fun e => by subst e; rw [hyn] at hdn; cases hdn
    rw [hdx z e] at h6 ⊢
    have h7 := h.done z hz hdn b u h1 h2 h3 h4 h5 h6
    by_cases e2 : u = y
    · subst e2; rw [hdy]; omega
    · rw [hdx u e2]; exact h7
  · have := h.ms
    rw [htot]; omega
  · have hl : ((B.set nd.toNat (B.getD nd.toNat [] ++ [y])).getD d []).length ≤ (B.getD d []).length + 1 := by
      rw [hB]
      split
      · rename_i e; rw [List.length_append, ← e, List.length_singleton]; exact Nat.le_refl _
      · omega
    omega
theorem DB.next (h : DB V s l M ds dn B d j NoEx) (hj : (B.getD d []).length ≤ j) : DB V s l M ds dn B (d + 1) 0 NoEx := by
  refine ⟨h.dl, h.nl, h.bl, h.rng, h.s0, h.lo, h.blt, fun z hz hne hdn => ?_, fun z hz hdn => by have := h.dnd z hz hdn; omega, h.done, h.ms⟩
  obtain ⟨h1, p, h2, h3⟩ := h.pend z hz hne hdn
  refine ⟨?_, p, h2, fun _ => Nat.zero_le _⟩
  by_cases e : lbA ds z = d
  · have h4 := h3 e
    have ed : (lbA ds z).toNat = d := by omega
    rw [ed] at h2
    have := (List.getElem?_eq_some_iff.1 h2).1
    omega
  · omega
end
/-- What the search leaves. -/
structure Dend (V s : Nat) (l : List Arc) (M : Nat → Int) (ds : List Int) : Prop where
  rng : ∀ x, x < V → lbA ds x = 1073741824 ∨ (0 ≤ lbA ds x ∧ lbA ds x ≤ V)
  s0 : lbA ds s = 0
  lo : ∀ x, x < V → lbA ds x ≠ 1073741824 → M x ≤ lbA ds x
  shut : ∀ x, x < V → lbA ds x ≠ 1073741824 → ∀ a y : Nat, a < l.length → toAt l (twin a) = (x : Int) → toAt l a = (y : Int) → roomAt l a ≠ 0 → lbA ds x + costAt l a ≤ V → lbA ds y ≤ lbA ds x + costAt l a
theorem DB.fin {V s : Nat} {l : List Arc} {M : Nat → Int} {ds : List Int} {dn : List Bool} {B : List (List Nat)} {d j : Nat} (h : DB V s l M ds dn B d j NoEx) (hd : V < d) : Dend V s l M ds := by
  refine ⟨h.rng, h.s0, h.lo, fun x hx hne a y h1 h2 h3 h4 h5 => ?_⟩
  have hdn : dn.getD x false = true := by
    cases hh : dn.getD x false with
    | true => rfl
    | false =>
      have := (h.pend x hx hne hh).1
      have := h.rng x hx
      omega
  exact h.done x hx hdn a y h1 h2 h3 h4 id h5
end Go.Proofs.Qxb6605292a
