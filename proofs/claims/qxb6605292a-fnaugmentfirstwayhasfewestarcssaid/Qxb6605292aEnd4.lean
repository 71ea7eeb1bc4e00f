/-
  The way of the fewest arcs, plainly: levels on both sides.
-/
import Derived.Test.Qxb6605292aEnd3
import Derived.Test.Qxb6605292aBfs3
import Derived.Test.Qxb6605292aFew
namespace Go.Proofs.Qxb6605292a

/-- An arc with room from x to y. -/
def Ed (l : List Arc) (x y : Nat) : Prop := ∃ a, a < l.length ∧ toAt l (twin a) = (x : Int) ∧ toAt l a = (y : Int) ∧ roomAt l a ≠ 0
theorem even_two {a : Nat} (h : a % 2 = 0) : twin a = a + 1 ∧ a = 2 * (a / 2) := by unfold twin; rw [if_pos h]; omega
/-- The pair of an even arc. -/
theorem pair_at {V : Nat} {ps : List Pr} {l : List Arc} (hl : l.length = 2 * ps.length) (ht : ∀ a, toAt l a = toAt (netOf V ps).2 a) {k : Nat} (hk : k < ps.length) : 2 * k < l.length ∧ toAt l (twin (2 * k)) = (ps[k].a : Int) ∧ toAt l (2 * k) = (ps[k].b : Int) := by
  have hm := netOf_even V ps hk
  refine ⟨by omega, ?_, ?_⟩
  · rw [(even_two (a := 2 * k) (by omega)).1, ht]
    unfold toAt
    rw [hm.2]
  · rw [ht]
    unfold toAt
    rw [hm.1]
theorem room_net {V : Nat} {ps : List Pr} {k : Nat} (hk : k < ps.length) : roomAt (netOf V ps).2 (2 * k) = ps[k].full := by
  unfold roomAt
  rw [(netOf_even V ps hk).1]
theorem ed_net {V : Nat} {ps : List Pr} (hf : ∀ p ∈ ps, p.full = 1) {x y : Nat} : Ed (netOf V ps).2 x y ↔ ∃ p ∈ ps, p.a = x ∧ p.b = y := by
  have hl := netOf_arcs V ps
  constructor
  · rintro ⟨a, ha, h1, h2, h3⟩
    have hev : a % 2 = 0 := by
      have : ¬ a % 2 = 1 := fun h => h3 ((rz_net V ps (fun p hp => .inr (hf p hp))).odd a h)
      omega
    have hk : a / 2 < ps.length := by omega
    have hp := pair_at (V := V) (l := (netOf V ps).2) hl (fun _ => rfl) hk
    rw [← (even_two hev).2] at hp
    exact ⟨ps[a / 2], List.getElem_mem hk, by omega, by omega⟩
  · rintro ⟨p, hp, rfl, rfl⟩
    obtain ⟨k, hk, rfl⟩ := List.getElem_of_mem hp
    have hq := pair_at (V := V) (l := (netOf V ps).2) hl (fun _ => rfl) hk
    exact ⟨2 * k, hq.1, hq.2.1, hq.2.2, by rw [room_net hk, hf _ hp]; omega⟩
theorem ed_opd {n : Nat} {O S : List Bool} {reach : Nat → List Int} {l : List Arc} (ho : Opd n O S reach n l) {x y : Nat} : Ed l x y ↔ (∃ p ∈ linkPairs O reach n, p.a = x ∧ p.b = y) ∨ ∃ v, v < n ∧ isOut O v = false ∧ S.getD v false = true ∧ x = 2 * n ∧ y = 2 * v := by
  have hl := ho.len
  have hfl : (finPairs O reach n).length = (linkPairs O reach n).length + (srcPairs O n n).length := by unfold finPairs; rw [List.length_append]
  constructor
  · rintro ⟨a, ha, h1, h2, h3⟩
    have hev : a % 2 = 0 := by
      have : ¬ a % 2 = 1 := fun h => h3 (ho.rz.odd a h)
      omega
    have hk : a / 2 < (finPairs O reach n).length := by omega
    have hp := pair_at hl ho.tos hk
    rw [← (even_two hev).2] at hp
    by_cases hlk : a / 2 < (linkPairs O reach n).length
    · have e2 : (finPairs O reach n)[a / 2]? = (linkPairs O reach n)[a / 2]? := by unfold finPairs; rw [List.getElem?_append_left hlk]
      rw [List.getElem?_eq_getElem hk, List.getElem?_eq_getElem hlk] at e2
      injection e2 with e2
      rw [e2] at hp
      exact .inl ⟨_, List.getElem_mem hlk, by omega, by omega⟩
    · obtain ⟨v, hv, hvo, hj⟩ := src_index O n n (a / 2 - (linkPairs O reach n).length) (by omega)
      have hav : a = srcI O reach n v := by unfold srcI; omega
      have hi := srcI_to ho hv hvo
      rw [← hav] at hi
      have hr := ho.sr v hv hvo
      rw [← hav] at hr
      refine .inr ⟨v, hv, hvo, ?_, by omega, by omega⟩
      by_cases hc : v < n ∧ S.getD v false = true
      · exact hc.2
      · rw [if_neg hc] at hr; exact absurd hr h3
  · rintro (⟨p, hp, rfl, rfl⟩ | ⟨v, hv, hvo, hs, rfl, rfl⟩)
    · obtain ⟨k, hk, rfl⟩ := List.getElem_of_mem hp
      have hk2 : k < (finPairs O reach n).length := by omega
      have hq := pair_at hl ho.tos hk2
      have e2 : (finPairs O reach n)[k]? = (linkPairs O reach n)[k]? := by unfold finPairs; rw [List.getElem?_append_left hk]
      rw [List.getElem?_eq_getElem hk2, List.getElem?_eq_getElem hk] at e2
      injection e2 with e2
      rw [e2] at hq
      exact ⟨2 * k, hq.1, hq.2.1, hq.2.2, by rw [ho.lk k hk]; omega⟩
    · have hi := srcI_to ho hv hvo
      exact ⟨_, hi.1, hi.2.2, hi.2.1, by rw [ho.sr v hv hvo, if_pos ⟨hv, hs⟩]; omega⟩
theorem mem_msrc {S : List Bool} {n sink k : Nat} {dr : Bool} {p : Pr} : p ∈ msrc S n sink dr k ↔ ∃ v, v < k ∧ S.getD v false = true ∧ (dr = true ∨ 2 * v ≠ sink) ∧ p = ⟨2 * n, 2 * v, 1, 0⟩ := by
  unfold msrc
  rw [List.mem_flatMap]
  constructor
  · rintro ⟨v, hv, h⟩
    unfold msrcOf at h
    split at h
    · rename_i hc
      rw [List.mem_singleton] at h
      rw [Bool.and_eq_true, Bool.or_eq_true, decide_eq_true_eq] at hc
      exact ⟨v, List.mem_range.1 hv, hc.1, hc.2, h⟩
    · simp at h
  · rintro ⟨v, hv, hs, hd, rfl⟩
    refine ⟨v, List.mem_range.2 hv, ?_⟩
    unfold msrcOf
    rw [if_pos (by rw [Bool.and_eq_true, Bool.or_eq_true, decide_eq_true_eq]; exact ⟨hs, hd⟩)]
    simp
/-- The model's arcs are the finder's, but the sink's own. -/
theorem ed_model {n sink : Nat} {O S : List Bool} {reach : Nat → List Int} {l : List Arc} (ho : Opd n O S reach n l) (hS : ∀ v, v < n → S.getD v false = true → isOut O v = false) (hr : ∀ v, v < n → ∀ z ∈ reach v, 0 ≤ z ∧ z < n) {x y : Nat} :
    Ed (netOf (2 * n + 1) (linkPairs O reach n ++ msrc S n sink false n)).2 x y ↔ Ed l x y ∧ ¬ (x = 2 * n ∧ y = sink) := by
  rw [ed_net (fun p hp => ?_), ed_opd ho]
  · constructor
    · rintro ⟨p, hp, rfl, rfl⟩
      rcases List.mem_append.1 hp with hp | hp
      · have := link_ends hr p hp
        exact ⟨.inl ⟨p, hp, rfl, rfl⟩, fun h => by omega⟩
      · obtain ⟨v, hv, hs, hd, rfl⟩ := mem_msrc.1 hp
        refine ⟨.inr ⟨v, hv, hS v hv hs, hs, rfl, rfl⟩, fun h => ?_⟩
        rcases hd with hd | hd
        · cases hd
        · exact hd h.2
    · rintro ⟨⟨p, hp, rfl, rfl⟩ | ⟨v, hv, hvo, hs, rfl, rfl⟩, hx⟩
      · exact ⟨p, List.mem_append_left _ hp, rfl, rfl⟩
      · exact ⟨_, List.mem_append_right _ (mem_msrc.2 ⟨v, hv, hs, .inr (fun e => hx ⟨rfl, e⟩), rfl⟩), rfl, rfl⟩
  · rcases List.mem_append.1 hp with hp | hp
    · exact full_link hp
    · obtain ⟨v, hv, hs, hd, rfl⟩ := mem_msrc.1 hp
      rfl
/-- Distances against a potential. -/
theorem Lev.pot {V s : Nat} {l : List Arc} {ds : List Int} (h : Lev V s l ds) (M : Nat → Int) (hM : ∀ x y, Ed l x y → M x ≤ M y + 1) : ∀ (d : Nat) (x : Nat), dAt ds x = (d : Int) → M s ≤ M x + d := by
  intro d
  induction d with
  | zero =>
    intro x hx
    rcases h.tree x (by omega) with rfl | ⟨a, y, _, _, _, _, h5, h6⟩
    · omega
    · omega
  | succ d ih =>
    intro x hx
    rcases h.tree x (by omega) with rfl | ⟨a, y, h1, h2, h3, h4, h5, h6⟩
    · have := h.s0; omega
    · have := hM y x ⟨a, h1, h2, h3, h4⟩
      have := ih y (by omega)
      omega
/-- The level of a place. -/
def lvF (par : List Nat) : Nat → Nat → Nat
  | 0, _ => 0
  | f + 1, i => if 0 < i ∧ par.getD i 0 < i then lvF par f (par.getD i 0) + 1 else 0
theorem lvF_more (par : List Nat) : ∀ f i, i < f → lvF par f i = lvF par (f + 1) i := by
  intro f
  induction f with
  | zero => intro i h; omega
  | succ f ih =>
    intro i h
    show (if 0 < i ∧ par.getD i 0 < i then lvF par f (par.getD i 0) + 1 else 0) = (if 0 < i ∧ par.getD i 0 < i then lvF par (f + 1) (par.getD i 0) + 1 else 0)
    split
    · rename_i hc
      rw [ih _ (by omega)]
    · rfl
theorem lvF_all (par : List Nat) {f g i : Nat} (hf : i < f) (hg : f ≤ g) : lvF par f i = lvF par g i := by
  induction g with
  | zero => omega
  | succ g ih =>
    by_cases e : f = g + 1
    · rw [e]
    · rw [ih (by omega), lvF_more par g i (by omega)]
def lv (par : List Nat) (i : Nat) : Nat := lvF par (i + 1) i
theorem lv_zero (par : List Nat) : lv par 0 = 0 := by simp [lv, lvF]
theorem lv_succ {par : List Nat} {i p : Nat} (hi : 0 < i) (hp : par[i]? = some p) (hlt : p < i) : lv par i = lv par p + 1 := by
  have e : par.getD i 0 = p := by rw [List.getD_eq_getElem?_getD, hp]; rfl
  unfold lv
  show (if 0 < i ∧ par.getD i 0 < i then lvF par i (par.getD i 0) + 1 else 0) = _
  rw [e, if_pos ⟨hi, hlt⟩, lvF_all par (f := p + 1) (g := i) (by omega) (by omega)]
section
variable {n sink : Nat} {W : Int} {l : List Arc} {source sn vi : List Int} {q par : List Nat}
theorem BI.lv_tree (h : BI n sink W l source sn vi q par) {i : Nat} (hi : 0 < i) (hl : i < q.length) : ∃ p, par[i]? = some p ∧ p < i ∧ lv par i = lv par p + 1 := by
  obtain ⟨a, p, y, _, _, h3, h4, _⟩ := h.tree i _ hi (List.getElem?_eq_getElem hl)
  exact ⟨p, h3, h4, lv_succ hi h3 h4⟩
theorem BI.lv_mono (h : BI n sink W l source sn vi q par) : ∀ j, j < q.length → ∀ i, i ≤ j → lv par i ≤ lv par j := by
  intro j
  induction j using Nat.strongRecOn with
  | _ j ih =>
    intro hj i hi
    by_cases h0 : i = 0
    · subst h0; rw [lv_zero]; omega
    · obtain ⟨p, p1, p2, p3⟩ := h.lv_tree (i := i) (by omega) (by omega)
      obtain ⟨r, r1, r2, r3⟩ := h.lv_tree (i := j) (by omega) hj
      have := h.mono i j p r hi p1 r1
      have := ih r r2 (by omega) p this
      omega
/-- The level of a node, as the way goes. -/
def lvN (n : Nat) (q par : List Nat) (p x : Nat) : Int := if x ∈ q then (lv par (q.idxOf x) : Int) else if x = 2 * n then (lv par p : Int) + 2 else (lv par p : Int) + 1
theorem lvN_at (hn : q.Nodup) {i x p : Nat} (hi : q[i]? = some x) : lvN n q par p x = lv par i := by
  unfold lvN
  rw [if_pos (List.mem_of_getElem? hi), idxOf_at hn hi]
theorem FoundP.len (h : FoundP n sink W l source sn vi q par) {ns ar : List Nat} (hw : Way l vi (2 * n) sink ns ar) : ∃ p, p < q.length ∧ DoneP n l q par p ∧ (∃ sn0 vi0, BI n sink W l source sn0 vi0 q par) ∧ ar.length = lv par p + 2 := by
  obtain ⟨sn0, vi0, f, p, v, a, b, hdp, hb, hf, hfq, _, rfl, hv, ha1, ha2, ha3, ha4, hb1, hb2, hb3, hb4, _⟩ := h
  have hvl := hb.vil
  have hpq := (List.getElem?_eq_some_iff.1 hv).1
  refine ⟨p, hpq, hdp, ⟨sn0, vi0, hb⟩, ?_⟩
  have h2n : (2 * n) ∉ q := fun h => by have := hb.lt _ h; omega
  have e2n : lvN n q par p (2 * n) = (lv par p : Int) + 2 := by unfold lvN; rw [if_neg h2n, if_pos rfl]
  have ef : lvN n q par p f = (lv par p : Int) + 1 := by unfold lvN; rw [if_neg hfq, if_neg (by omega)]
  have key : ∀ k, k ≤ ar.length → ∃ x, ns[k]? = some x ∧ (x ∈ q ∨ x = f ∨ x = 2 * n) ∧ lvN n q par p x + k = (lv par p : Int) + 2 := by
    intro k
    induction k with
    | zero => intro _; exact ⟨2 * n, hw.hd, .inr (.inr rfl), by rw [e2n]; omega⟩
    | succ k ih =>
      intro hk
      obtain ⟨x, hx, hin, hlev⟩ := ih (by omega)
      obtain ⟨u, z, u1, u2, u3, u4, u5, u6, u7⟩ := hw.arc k _ (List.getElem?_eq_getElem (by omega))
      rw [hx] at u1
      injection u1 with u1
      subst u1
      refine ⟨z, u2, ?_⟩
      rcases hin with hin | rfl | rfl
      · obtain ⟨i, hi⟩ := List.mem_iff_getElem?.1 hin
        have hil := (List.getElem?_eq_some_iff.1 hi).1
        have hxf : f ≠ x := fun e => hfq (e ▸ hin)
        have hxn : 2 * n ≠ x := fun e => h2n (e ▸ hin)
        rw [List.getElem?_set_ne hxn, List.getElem?_set_ne hxf] at u3
        have hi0 : 0 < i := by
          rcases Nat.eq_zero_or_pos i with e | e
          · subst e
            rw [hb.hd] at hi
            injection hi with hi
            subst hi
            have := nodup_at hw.nd hx hw.last
            omega
          · exact e
        obtain ⟨c, r, y, t1, t2, t3, t4, t5, t6, t7, t8⟩ := hb.tree i x hi0 hi
        rw [t1] at u3
        injection u3 with u3
        have hca : c = ar[k] := by omega
        subst hca
        rw [t6] at u5
        have hyz : y = z := by omega
        subst hyz
        refine ⟨.inl (List.mem_of_getElem? t5), ?_⟩
        rw [lvN_at hb.nd t5]
        rw [lvN_at hb.nd hi, lv_succ hi0 t3 t4] at hlev
        omega
      · rw [List.getElem?_set_ne (by omega), List.getElem?_set_self (by omega)] at u3
        injection u3 with u3
        have hca : a = ar[k] := by omega
        rw [← hca, ha2] at u5
        have hyz : v = z := by omega
        subst hyz
        refine ⟨.inl (List.mem_of_getElem? hv), ?_⟩
        rw [lvN_at hb.nd hv]
        rw [ef] at hlev
        omega
      · rw [List.getElem?_set_self (by rw [List.length_set]; omega)] at u3
        injection u3 with u3
        have hca : b = ar[k] := by omega
        rw [← hca, hb2] at u5
        have hyz : f = z := by omega
        subst hyz
        refine ⟨.inr (.inl rfl), ?_⟩
        rw [ef]
        rw [e2n] at hlev
        omega
  obtain ⟨x, hx, _, hlev⟩ := key ar.length (Nat.le_refl _)
  rw [hw.last] at hx
  injection hx with hx
  subst hx
  rw [lvN_at hb.nd hb.hd, lv_zero] at hlev
  omega
/-- The level of a node, cut off at p's. -/
def lvM (n : Nat) (q par : List Nat) (p x : Nat) : Int := if x ∈ q then min (lv par (q.idxOf x) : Int) ((lv par p : Int) + 1) else if x = 2 * n then (lv par p : Int) + 2 else (lv par p : Int) + 1
theorem lvM_at (hn : q.Nodup) {i x p : Nat} (hi : q[i]? = some x) : lvM n q par p x = min (lv par i : Int) ((lv par p : Int) + 1) := by
  unfold lvM
  rw [if_pos (List.mem_of_getElem? hi), idxOf_at hn hi]
/-- An arc from the source leads to no node of the queue but the sink. -/
theorem BI.src_out (hb : BI n sink W l source sn vi q par) (hs : SrcOnly n l source) (hr : Rm l) {v : Nat} (he : Ed l (2 * n) v) (hne : v ≠ sink) : v ∉ q := by
  obtain ⟨a, h1, h2, h3, h4⟩ := he
  intro hv
  obtain ⟨u, hu1, hu2⟩ := hs a h1 h2
  obtain ⟨i, hi⟩ := List.mem_iff_getElem?.1 hv
  have hvu : v = 2 * u := by omega
  subst hvu
  have hi0 : i ≠ 0 := fun e => by
    subst e
    rw [hb.hd] at hi
    injection hi with hi
    exact hne hi.symm
  have := hb.shut i u a (by omega) hi hu1
  have := hr.lo a
  omega
theorem BI.pot (hb : BI n sink W l source sn vi q par) {p : Nat} (hp : p < q.length) (hd : DoneP n l q par p) (hs : SrcOnly n l source) (hr : Rm l) : ∀ u v, Ed l u v → ¬ (u = 2 * n ∧ v = sink) → lvM n q par p u ≤ lvM n q par p v + 1 := by
  intro u v he hx
  have hlow : v ∉ q → (lv par p : Int) + 1 ≤ lvM n q par p v := fun h => by unfold lvM; rw [if_neg h]; split <;> omega
  by_cases hu : u = 2 * n
  · subst hu
    have hvq := hb.src_out hs hr he (fun e => hx ⟨rfl, e⟩)
    have := hlow hvq
    have e : lvM n q par p (2 * n) = (lv par p : Int) + 2 := by unfold lvM; rw [if_neg (fun h => by have := hb.lt _ h; omega), if_pos rfl]
    omega
  · have hup : lvM n q par p u ≤ (lv par p : Int) + 1 := by
      unfold lvM
      split
      · omega
      · omega
    by_cases hvq : v ∈ q
    · obtain ⟨j, hj⟩ := List.mem_iff_getElem?.1 hvq
      have hjl := (List.getElem?_eq_some_iff.1 hj).1
      rw [lvM_at hb.nd hj]
      by_cases hjp : p ≤ j
      · have := hb.lv_mono j hjl p hjp
        omega
      · obtain ⟨a, h1, h2, h3, h4⟩ := he
        rcases hd j v a u (by omega) hj h1 h3 h4 h2 with e | ⟨i, r, i1, i2, i3⟩
        · exact absurd e hu
        · rw [lvM_at hb.nd i1]
          have hm := hb.lv_mono p hp j (by omega)
          by_cases hi0 : i = 0
          · subst hi0; rw [lv_zero]; omega
          · obtain ⟨p', q1, q2, q3⟩ := hb.lv_tree (i := i) (by omega) (List.getElem?_eq_some_iff.1 i1).1
            rw [i2] at q1
            injection q1 with q1
            subst q1
            have := hb.lv_mono j hjl r i3
            omega
    · have := hlow hvq
      omega
end
/-- What the law says of the number of arcs. -/
theorem few_true {n sink : Nat} {W : Int} {l m : List Arc} {source sn vi : List Int} {q par ns ar : List Nat} {ds : List Int} {V : Nat} (hf : FoundP n sink W l source sn vi q par) (hw : Way l vi (2 * n) sink ns ar) (hs : SrcOnly n l source) (hrm : Rm l)
    (hm : ∀ x y, Ed m x y ↔ Ed l x y ∧ ¬ (x = 2 * n ∧ y = sink)) (hd : Lev V (2 * n) m ds) : dAt ds sink = (ar.length : Int) := by
  obtain ⟨p, hp, hdp, ⟨sn0, vi0, hb⟩, hlen⟩ := hf.len hw
  have has := hf.found.aside hw
  have key : ∀ k, k ≤ ar.length → ∃ x, ns[k]? = some x ∧ 0 ≤ dAt ds x ∧ dAt ds x ≤ k := by
    intro k
    induction k with
    | zero => intro _; exact ⟨2 * n, hw.hd, by rw [hd.s0]; omega, by rw [hd.s0]; omega⟩
    | succ k ih =>
      intro hk
      obtain ⟨x, hx, h0, h1⟩ := ih (by omega)
      obtain ⟨u, z, u1, u2, u3, u4, u5, u6, u7⟩ := hw.arc k _ (List.getElem?_eq_getElem (by omega))
      rw [hx] at u1
      injection u1 with u1
      subst u1
      have hno : ¬ (x = 2 * n ∧ z = sink) := fun h => by
        have := (has ar[k] (List.getElem_mem (by omega))).1
        unfold Xs at this
        rw [u5, u6, h.1, h.2, decide_eq_true rfl, decide_eq_true rfl] at this
        cases this
      obtain ⟨b, b1, b2, b3, b4⟩ := (hm x z).2 ⟨⟨_, u4, u6, u5, u7⟩, hno⟩
      have := hd.up b x z b1 b2 b3 b4 h0
      exact ⟨z, u2, this.1, by omega⟩
  obtain ⟨x, hx, h0, h1⟩ := key ar.length (Nat.le_refl _)
  rw [hw.last] at hx
  injection hx with hx
  subst hx
  obtain ⟨d, hdd⟩ := Int.eq_ofNat_of_zero_le h0
  have hpot := hd.pot (lvM n q par p) (fun x y he => by
    have := (hm x y).1 he
    exact hb.pot hp hdp hs hrm x y this.1 this.2) d sink hdd
  have e : lvM n q par p (2 * n) = (lv par p : Int) + 2 := by unfold lvM; rw [if_neg (fun h => by have := hb.lt _ h; omega), if_pos rfl]
  rw [e, lvM_at hb.nd hb.hd, lv_zero] at hpot
  omega
theorem few_false {n sink : Nat} {W : Int} {l m : List Arc} {source sn vi : List Int} {q par : List Nat} {ds : List Int} {V : Nat} (hb : BI n sink W l source sn vi q par) (hdo : Done n l q q.length) (hs : SrcOnly n l source) (hrm : Rm l)
    (hm : ∀ x y, Ed m x y ↔ Ed l x y ∧ ¬ (x = 2 * n ∧ y = sink)) (hd : Lev V (2 * n) m ds) : dAt ds sink < 0 := by
  rcases Int.lt_or_le (dAt ds sink) 0 with h | h0
  · exact h
  · exfalso
    obtain ⟨d, hdd⟩ := Int.eq_ofNat_of_zero_le h0
    have hpot := hd.pot (fun x => if x ∈ q then 0 else (d : Int) + 1) (fun x y he => by
      obtain ⟨he, hx⟩ := (hm x y).1 he
      show (if x ∈ q then (0 : Int) else (d : Int) + 1) ≤ (if y ∈ q then (0 : Int) else (d : Int) + 1) + 1
      by_cases hy : y ∈ q
      · have hxq : x ∈ q := by
          by_cases hxn : x = 2 * n
          · subst hxn
            exact absurd hy (hb.src_out hs hrm he (fun e => hx ⟨rfl, e⟩))
          · obtain ⟨a, h1, h2, h3, h4⟩ := he
            obtain ⟨j, hj⟩ := List.mem_iff_getElem?.1 hy
            rcases hdo j y a x (List.getElem?_eq_some_iff.1 hj).1 hj h1 h3 h4 h2 with h | h
            · exact h
            · exact absurd h hxn
        rw [if_pos hxq, if_pos hy]; omega
      · rw [if_neg hy]
        split <;> omega) d sink hdd
    have hsq : sink ∈ q := List.mem_of_getElem? hb.hd
    have h2n : (2 * n) ∉ q := fun h => by have := hb.lt _ h; omega
    simp only [if_pos hsq, if_neg h2n] at hpot
    omega
/-- The units on the even arcs. -/
def oddSum (l : List Arc) (K : Nat) : Int := sumTo (fun k => roomAt l (2 * k + 1)) K
theorem oddSum_push {l : List Arc} {K a : Nat} (hl : l.length = 2 * K) (ha : a < l.length) (hev : a % 2 = 0) : oddSum (pushAt l a) K = oddSum l K + 1 := by
  unfold oddSum
  have ht := even_two hev
  rw [sumTo_one (f := fun k => roomAt l (2 * k + 1)) (i := a / 2) (d := 1)]
  · rw [if_pos (by omega)]
  · have e : 2 * (a / 2) + 1 = twin a := by rw [ht.1]; omega
    show roomAt (pushAt l a) (2 * (a / 2) + 1) = roomAt l (2 * (a / 2) + 1) + 1
    rw [e, pushAt_twin l (by rw [ht.1]; omega)]
  · intro j hj
    exact pushAt_ne l (by omega) (by rw [ht.1]; omega)
theorem oddSum_all {K : Nat} : ∀ (ar : List Nat) (l : List Arc), l.length = 2 * K → (∀ a ∈ ar, a < l.length ∧ a % 2 = 0) → oddSum (pushAll l ar) K = oddSum l K + ar.length := by
  intro ar
  induction ar with
  | nil => intro l _ _; simp [pushAll]
  | cons a ar ih =>
    intro l hl h
    have ha := h a List.mem_cons_self
    show oddSum (pushAll (pushAt l a) ar) K = _
    rw [ih _ (by rw [pushAt_len]; exact hl) (fun b hb => by rw [pushAt_len]; exact h b (List.mem_cons_of_mem _ hb)), oddSum_push hl ha.1 ha.2, List.length_cons]
    omega
theorem oddSum_way {n sink : Nat} {O S : List Bool} {reach : Nat → List Int} {l : List Arc} {vi : List Int} {x : Nat} {ns ar : List Nat} (ho : Opd n O S reach n l) (hw : Way l vi x sink ns ar) : oddSum (pushAll l ar) (finPairs O reach n).length = ar.length := by
  rw [oddSum_all ar l ho.len (fun a ha => ?_)]
  · have : oddSum l (finPairs O reach n).length = 0 := sumTo_zero (fun k _ => ho.rz.odd _ (by omega))
    omega
  · obtain ⟨k, hk⟩ := List.mem_iff_getElem?.1 ha
    obtain ⟨_, _, _, _, _, h4, _, _, h7⟩ := hw.arc k a hk
    refine ⟨h4, ?_⟩
    have : ¬ a % 2 = 1 := fun h => h7 (ho.rz.odd a h)
    omega
end Go.Proofs.Qxb6605292a
