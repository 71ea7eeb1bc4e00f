/-
  The cheapest way, plainly: the label-correcting search on the finder and the bucket search on the law's own network say the same.
-/
import Derived.Test.Qxb6605292aPlay5
import Derived.Test.Qxb6605292aDial
namespace Go.Proofs.Qxb6605292a

/-- An arc with room from x to y that costs c. -/
def EdC (l : List Arc) (x y : Nat) (c : Int) : Prop := ∃ a, a < l.length ∧ toAt l (twin a) = (x : Int) ∧ toAt l a = (y : Int) ∧ roomAt l a ≠ 0 ∧ costAt l a = c
theorem evenC {a : Nat} (h : a % 2 = 0) : twin a = a + 1 ∧ a = 2 * (a / 2) := by unfold twin; rw [if_pos h]; omega
theorem pairC {V : Nat} {ps : List Pr} {l : List Arc} (hl : l.length = 2 * ps.length) (ht : ∀ a, toAt l a = toAt (netOf V ps).2 a) (hc : ∀ a, costAt l a = costAt (netOf V ps).2 a) {k : Nat} (hk : k < ps.length) : 2 * k < l.length ∧ toAt l (twin (2 * k)) = (ps[k].a : Int) ∧ toAt l (2 * k) = (ps[k].b : Int) ∧ costAt l (2 * k) = ps[k].cost := by
  have hm := netOf_even V ps hk
  refine ⟨by omega, ?_, ?_, ?_⟩
  · rw [(evenC (a := 2 * k) (by omega)).1, ht]
    unfold toAt
    rw [hm.2]
  · rw [ht]
    unfold toAt
    rw [hm.1]
  · rw [hc]; exact (cost_net V ps hk).1
theorem edc_net {V : Nat} {ps : List Pr} (hf : ∀ p ∈ ps, p.full = 1) {x y : Nat} {c : Int} : EdC (netOf V ps).2 x y c ↔ ∃ p ∈ ps, p.a = x ∧ p.b = y ∧ p.cost = c := by
  have hl := netOf_arcs V ps
  constructor
  · rintro ⟨a, ha, h1, h2, h3, h4⟩
    have hev : a % 2 = 0 := by
      have : ¬ a % 2 = 1 := fun h => h3 ((rz_net V ps (fun p hp => .inr (hf p hp))).odd a h)
      omega
    have hk : a / 2 < ps.length := by omega
    have hp := pairC (V := V) (l := (netOf V ps).2) hl (fun _ => rfl) (fun _ => rfl) hk
    rw [← (evenC hev).2] at hp
    exact ⟨ps[a / 2], List.getElem_mem hk, by omega, by omega, by omega⟩
  · rintro ⟨p, hp, rfl, rfl, rfl⟩
    obtain ⟨k, hk, rfl⟩ := List.getElem_of_mem hp
    have hq := pairC (V := V) (l := (netOf V ps).2) hl (fun _ => rfl) (fun _ => rfl) hk
    refine ⟨2 * k, hq.1, hq.2.1, hq.2.2.1, ?_, hq.2.2.2⟩
    unfold roomAt
    rw [(netOf_even V ps hk).1]
    show ps[k].full ≠ 0
    rw [hf _ hp]; omega
theorem edc_opd {n : Nat} {O S : List Bool} {reach : Nat → List Int} {l : List Arc} (ho : Opd n O S reach n l) (hc : ∀ a, costAt l a = costAt (netOf (2 * n + 1) (finPairs O reach n)).2 a) {x y : Nat} {c : Int} : EdC l x y c ↔ (∃ p ∈ linkPairs O reach n, p.a = x ∧ p.b = y ∧ p.cost = c) ∨ ∃ v, v < n ∧ isOut O v = false ∧ S.getD v false = true ∧ x = 2 * n ∧ y = 2 * v ∧ c = 0 := by
  have hl := ho.len
  have hfl : (finPairs O reach n).length = (linkPairs O reach n).length + (srcPairs O n n).length := by unfold finPairs; rw [List.length_append]
  constructor
  · rintro ⟨a, ha, h1, h2, h3, h4⟩
    have hev : a % 2 = 0 := by
      have : ¬ a % 2 = 1 := fun h => h3 (ho.rz.odd a h)
      omega
    have hk : a / 2 < (finPairs O reach n).length := by omega
    have hp := pairC hl ho.tos hc hk
    rw [← (evenC hev).2] at hp
    by_cases hlk : a / 2 < (linkPairs O reach n).length
    · have e2 : (finPairs O reach n)[a / 2]? = (linkPairs O reach n)[a / 2]? := by unfold finPairs; rw [List.getElem?_append_left hlk]
      rw [List.getElem?_eq_getElem hk, List.getElem?_eq_getElem hlk] at e2
      injection e2 with e2
      rw [e2] at hp
      exact .inl ⟨_, List.getElem_mem hlk, by omega, by omega, by omega⟩
    · obtain ⟨v, hv, hvo, hj⟩ := src_index O n n (a / 2 - (linkPairs O reach n).length) (by omega)
      have hav : a = srcI O reach n v := by unfold srcI; omega
      have hi := srcI_to ho hv hvo
      rw [← hav] at hi
      have hr := ho.sr v hv hvo
      rw [← hav] at hr
      obtain ⟨hl2, e2⟩ := finPairs_at O reach n hv hvo
      have hcz : costAt l a = 0 := by
        have e3 : (finPairs O reach n)[a / 2] = ⟨2 * n, 2 * v, 0, 0⟩ := by
          have e4 : a / 2 = (linkPairs O reach n).length + (srcPairs O n v).length := by unfold srcI at hav; omega
          simp only [e4]
          exact e2
        rw [hp.2.2.2, e3]
      refine .inr ⟨v, hv, hvo, ?_, by omega, by omega, by omega⟩
      by_cases hcc : v < n ∧ S.getD v false = true
      · exact hcc.2
      · rw [if_neg hcc] at hr; exact absurd hr h3
  · rintro (⟨p, hp, rfl, rfl, rfl⟩ | ⟨v, hv, hvo, hs, rfl, rfl, rfl⟩)
    · obtain ⟨k, hk, rfl⟩ := List.getElem_of_mem hp
      have hk2 : k < (finPairs O reach n).length := by omega
      have hq := pairC hl ho.tos hc hk2
      have e2 : (finPairs O reach n)[k]? = (linkPairs O reach n)[k]? := by unfold finPairs; rw [List.getElem?_append_left hk]
      rw [List.getElem?_eq_getElem hk2, List.getElem?_eq_getElem hk] at e2
      injection e2 with e2
      rw [e2] at hq
      exact ⟨2 * k, hq.1, hq.2.1, hq.2.2.1, by rw [ho.lk k hk]; omega, hq.2.2.2⟩
    · have hi := srcI_to ho hv hvo
      obtain ⟨hl2, e2⟩ := finPairs_at O reach n hv hvo
      have hq := pairC hl ho.tos hc hl2
      rw [e2] at hq
      exact ⟨_, hi.1, hi.2.2, hi.2.1, by rw [ho.sr v hv hvo, if_pos ⟨hv, hs⟩]; omega, hq.2.2.2⟩
theorem mem_msrcC {S : List Bool} {n sink k : Nat} {p : Pr} : p ∈ msrc S n sink true k ↔ ∃ v, v < k ∧ S.getD v false = true ∧ p = ⟨2 * n, 2 * v, 1, 0⟩ := by
  unfold msrc
  rw [List.mem_flatMap]
  constructor
  · rintro ⟨v, hv, h⟩
    unfold msrcOf at h
    rw [Bool.true_or, Bool.and_true] at h
    split at h
    · rename_i hc
      rw [List.mem_singleton] at h
      exact ⟨v, List.mem_range.1 hv, hc, h⟩
    · simp at h
  · rintro ⟨v, hv, hs, rfl⟩
    refine ⟨v, List.mem_range.2 hv, ?_⟩
    unfold msrcOf
    rw [Bool.true_or, Bool.and_true, if_pos hs]
    simp
/-- The model's arcs are the finder's between allowed nodes. -/
theorem edc_model {n sink : Nat} {bl : Option (List Bool)} {O S : List Bool} {reach : Nat → List Int} {l : List Arc} (ho : Opd n O S reach n l) (hc : ∀ a, costAt l a = costAt (netOf (2 * n + 1) (finPairs O reach n)).2 a) (hS : ∀ v, v < n → S.getD v false = true → isOut O v = false) {x y : Nat} {c : Int} :
    EdC (netOf (2 * n + 1) (mPairs O S reach n sink bl true)).2 x y c ↔ EdC l x y c ∧ allowB n sink bl x = true ∧ allowB n sink bl y = true := by
  rw [edc_net mfull, edc_opd ho hc]
  unfold mPairs
  constructor
  · rintro ⟨p, hp, rfl, rfl, rfl⟩
    obtain ⟨hp, hk⟩ := List.mem_filter.1 hp
    unfold okP at hk
    rw [Bool.and_eq_true] at hk
    refine ⟨?_, hk⟩
    rcases List.mem_append.1 hp with hp | hp
    · exact .inl ⟨p, hp, rfl, rfl, rfl⟩
    · obtain ⟨v, hv, hs, rfl⟩ := mem_msrcC.1 hp
      exact .inr ⟨v, hv, hS v hv hs, hs, rfl, rfl, rfl⟩
  · rintro ⟨⟨p, hp, rfl, rfl, rfl⟩ | ⟨v, hv, hvo, hs, rfl, rfl, rfl⟩, hk⟩
    · refine ⟨p, List.mem_filter.2 ⟨List.mem_append_left _ hp, ?_⟩, rfl, rfl, rfl⟩
      unfold okP
      rw [Bool.and_eq_true]; exact hk
    · refine ⟨⟨2 * n, 2 * v, 1, 0⟩, List.mem_filter.2 ⟨List.mem_append_right _ (mem_msrcC.2 ⟨v, hv, hs, rfl⟩), ?_⟩, rfl, rfl, rfl⟩
      unfold okP
      rw [Bool.and_eq_true]; exact hk
/-- What the units pay on the first K pairs. -/
def paidSum (l0 l : List Arc) (K : Nat) : Int := sumTo (fun k => roomAt l (2 * k + 1) * costAt l0 (2 * k)) K
theorem paid_push {l0 l : List Arc} {K a : Nat} (hl : l.length = 2 * K) (ha : a < l.length) (hev : a % 2 = 0) : paidSum l0 (pushAt l a) K = paidSum l0 l K + costAt l0 a := by
  unfold paidSum
  have ht := evenC hev
  rw [sumTo_one (f := fun k => roomAt l (2 * k + 1) * costAt l0 (2 * k)) (i := a / 2) (d := costAt l0 a)]
  · rw [if_pos (by omega)]
  · have e : 2 * (a / 2) + 1 = twin a := by rw [ht.1]; omega
    show roomAt (pushAt l a) (2 * (a / 2) + 1) * costAt l0 (2 * (a / 2)) = roomAt l (2 * (a / 2) + 1) * costAt l0 (2 * (a / 2)) + costAt l0 a
    rw [e, pushAt_twin l (by rw [ht.1]; omega), ← ht.2, Int.add_mul, Int.one_mul]
  · intro j hj
    show roomAt (pushAt l a) (2 * j + 1) * _ = roomAt l (2 * j + 1) * _
    rw [pushAt_ne l (by omega) (by rw [ht.1]; omega)]
theorem paid_all {l0 : List Arc} {K : Nat} : ∀ (ar : List Nat) (l : List Arc), l.length = 2 * K → (∀ a ∈ ar, a < l.length ∧ a % 2 = 0) → paidSum l0 (pushAll l ar) K = paidSum l0 l K + sumL (costAt l0) ar := by
  intro ar
  induction ar with
  | nil => intro l _ _; simp [pushAll, sumL]
  | cons a ar ih =>
    intro l hl h
    have ha := h a List.mem_cons_self
    show paidSum l0 (pushAll (pushAt l a) ar) K = _
    rw [ih _ (by rw [pushAt_len]; exact hl) (fun b hb => by rw [pushAt_len]; exact h b (List.mem_cons_of_mem _ hb)), paid_push hl ha.1 ha.2, sumL_cons]
    omega
/-- Both searches say the same. -/
theorem SpR.cheap {n sink : Nat} {bl : Option (List Bool)} {O S : List Bool} {reach : Nat → List Int} {l0 l' : List Arc} {ts' : List Int} {ok : Bool} (h : SpR n sink bl l0 (fun _ => 0) [] l' ts' ok) (ho : Opd n O S reach n l0) (hc : ∀ a, costAt l0 a = costAt (netOf (2 * n + 1) (finPairs O reach n)).2 a) (hS : ∀ v, v < n → S.getD v false = true → isOut O v = false) (hC : Cst n l0) (he : ∀ a, a % 2 = 0 → 0 ≤ costAt l0 a) (hP : Pot n sink bl l0 (fun _ => 0)) (hsk : sink < 2 * n) (hn : n ≤ 256)
    (htos : ∀ a, a < (netOf (2 * n + 1) (mPairs O S reach n sink bl true)).2.length → ∃ x y : Nat, toAt (netOf (2 * n + 1) (mPairs O S reach n sink bl true)).2 (twin a) = (x : Int) ∧ toAt (netOf (2 * n + 1) (mPairs O S reach n sink bl true)).2 a = (y : Int)) :
    ∃ M, Edg (2 * n + 1) (2 * n) (netOf (2 * n + 1) (mPairs O S reach n sink bl true)).2 M ∧ ∀ dd, Dend (2 * n + 1) (2 * n) (netOf (2 * n + 1) (mPairs O S reach n sink bl true)).2 M dd →
      (ok = true ∧ lbA dd sink ≠ 1073741824 ∧ 0 ≤ lbA dd sink ∧ paidSum l0 l' (finPairs O reach n).length = lbA dd sink) ∨ (ok = false ∧ lbA dd sink = 1073741824) := by
  obtain ⟨W, sn, vi, ds, qd, q, od, tm, k, hsi, hh⟩ := h
  obtain ⟨m, hm⟩ : ∃ m, (netOf (2 * n + 1) (mPairs O S reach n sink bl true)).2 = m := ⟨_, rfl⟩
  have hed : ∀ {x y : Nat} {c : Int}, EdC m x y c ↔ EdC l0 x y c ∧ allowB n sink bl x = true ∧ allowB n sink bl y = true := by
    intro x y c
    rw [← hm]
    exact edc_model ho hc hS
  rw [hm] at htos ⊢
  have hcost : ∀ a, a < m.length → roomAt m a ≠ 0 → 0 ≤ costAt m a ∧ costAt m a ≤ 1 := fun a ha hr => by
    obtain ⟨x, y, hx, hy⟩ := htos a ha
    obtain ⟨⟨b, hb, h1, h2, h3, h4⟩, _⟩ := hed.1 ⟨a, ha, hx, hy, hr, rfl⟩
    have hev : b % 2 = 0 := by
      have : ¬ b % 2 = 1 := fun h => h3 (ho.rz.odd b h)
      omega
    rw [← h4]
    exact ⟨he b hev, hC.hi b⟩
  rcases hh with ⟨rfl, hno, rfl, rfl⟩ | ⟨rfl, hin, ns, ar, rfl, rfl, hw⟩
  · refine ⟨fun x => if x ∈ od then 0 else 2 * n + 2, ⟨fun a ha hr => (hcost a ha hr).1, fun a ha hr => (hcost a ha hr).2, ?_, fun a x y ha hx hy hr => ?_⟩, fun dd hd => .inr ⟨rfl, ?_⟩⟩
    · show (if 2 * n ∈ od then (0 : Int) else 2 * n + 2) ≤ 0
      rw [if_pos hsi.src]
      exact Int.le_refl _
    · obtain ⟨⟨b, hb, h1, h2, h3, h4⟩, ax, ay⟩ := hed.1 ⟨a, ha, hx, hy, hr, rfl⟩
      have hca := (hcost a ha hr).1
      show (if y ∈ od then (0 : Int) else 2 * n + 2) ≤ (if x ∈ od then (0 : Int) else 2 * n + 2) + costAt m a
      by_cases hxo : x ∈ od
      · have hyo : y ∈ od := by
          by_cases hy0 : y = 2 * n
          · rw [hy0]; exact hsi.src
          · exact (hsi.shut hxo (fun e => hno (e ▸ hxo)) hb h1 h2 h3 hy0 ay).1
        rw [if_pos hxo, if_pos hyo]; omega
      · rw [if_neg hxo]
        split <;> omega
    · rcases hd.rng sink (by omega) with h | h
      · exact h
      · exfalso
        have := hd.lo sink (by omega) (by omega)
        have e : (if sink ∈ od then (0 : Int) else 2 * n + 2) = 2 * n + 2 := if_neg hno
        have this' : (if sink ∈ od then (0 : Int) else 2 * n + 2) ≤ lbA dd sink := this
        rw [e] at this'
        omega
  · have hpot := hsi.pot hin hC hP
    refine ⟨newPt (fun _ => 0) ds od sink, ⟨fun a ha hr => (hcost a ha hr).1, fun a ha hr => (hcost a ha hr).2, by rw [hpot.src]; exact Int.le_refl _, fun a x y ha hx hy hr => ?_⟩, fun dd hd => .inl ?_⟩
    · obtain ⟨⟨b, hb, h1, h2, h3, h4⟩, ax, ay⟩ := hed.1 ⟨a, ha, hx, hy, hr, rfl⟩
      rw [← h4]
      exact hpot.arc b x y hb h1 h2 h3 ax ay
    · have hol := hsi.odlen
      have up : ∀ j, j ≤ ar.length → ∀ z, ns[ar.length - j]? = some z → lbA dd z ≤ lbA ds z := by
        intro j
        induction j with
        | zero =>
          intro _ z hz
          rw [Nat.sub_zero, hw.bw.last] at hz
          injection hz with hz
          subst hz
          rw [hd.s0, hsi.d0]
          exact Int.le_refl _
        | succ j ih =>
          intro hj z hz
          have hil : ar.length - (j + 1) < ar.length := by omega
          obtain ⟨a, ha⟩ : ∃ a, ar[ar.length - (j + 1)]? = some a := ⟨_, List.getElem?_eq_getElem hil⟩
          obtain ⟨u, v, b1, b2, _, b4, b5, b6, b7⟩ := hw.bw.arc _ a ha
          rw [hz] at b1
          injection b1 with b1
          subst b1
          have e : ar.length - (j + 1) + 1 = ar.length - j := by omega
          rw [e] at b2
          have h1 := ih (by omega) v b2
          obtain ⟨u', z', t1, t2, t3, t4, t5⟩ := hw.tight hsi (List.mem_of_getElem? ha)
          have e1 : z' = z := by omega
          have e2 : u' = v := by omega
          subst e1 e2
          have hzo := (hw.nsod z' t3).1
          have huo := (hw.nsod u' t4).1
          have hzh := hsi.hi z' hzo
          have huh := hsi.hi u' huo
          obtain ⟨b, c1, c2, c3, c4, c5⟩ := hed.2 ⟨⟨a, b4, b6, b5, b7, rfl⟩, hsi.al u' huo, hsi.al z' hzo⟩
          have h3 := hd.shut u' (hsi.lt u' huo) (by omega) b z' c1 c2 c3 c4 (by rw [c5]; omega)
          rw [c5] at h3
          omega
      have h1 := up ar.length (Nat.le_refl _) sink (by rw [Nat.sub_self]; exact hw.bw.hd)
      have h2 := hsi.hi sink hin
      have hne : lbA dd sink ≠ 1073741824 := by omega
      have h3 := hd.lo sink (by omega) hne
      have h4 : newPt (fun _ => 0) ds od sink sink = lbA ds sink := by
        rw [newPt_in hin]
        split <;> omega
      rw [h4] at h3
      have h5 := hd.rng sink (by omega)
      refine ⟨rfl, hne, by omega, ?_⟩
      rw [paid_all ar l0 ho.len (fun a ha => ?_)]
      · have hz : paidSum l0 l0 (finPairs O reach n).length = 0 := sumTo_zero (fun k _ => by rw [ho.rz.odd _ (by omega), Int.zero_mul])
        rw [hz, hw.cost hsi]
        omega
      · obtain ⟨i, hi⟩ := List.mem_iff_getElem?.1 ha
        obtain ⟨_, _, _, _, _, g4, _, _, g7⟩ := hw.bw.arc i a hi
        refine ⟨g4, ?_⟩
        have : ¬ a % 2 = 1 := fun h => g7 (ho.rz.odd a h)
        omega
end Go.Proofs.Qxb6605292a
