/-
  The cheapest search played until it refuses, plainly: both networks carry the same between allowed nodes; the counts; costs and the first potential.
-/
import Derived.Test.Qxb6605292aEnd3
import Derived.Test.Qxb6605292aSpfaE
namespace Go.Proofs.Qxb6605292a

/-- The finder's room that leaves S. -/
theorem res_finderX (T : Int → Bool) (X : Int → Int → Bool) {n : Nat} {O S : List Bool} {reach : Nat → List Int} {l : List Arc} (h : Opd n O S reach n l) : res T X l = sumTo (fun k => cnd T X ((linkPairs O reach n).getD k ⟨0, 0, 0, 0⟩)) (linkPairs O reach n).length + sumTo (fun v => if isOut O v = true then 0 else cnd T X ⟨2 * n, 2 * v, 0, 0⟩ * if S.getD v false = true then 1 else 0) n := by
  rw [res_pairs T X h.len h.tos h.rz.odd]
  have e : (finPairs O reach n).length = (linkPairs O reach n).length + (srcPairs O n n).length := by unfold finPairs; rw [List.length_append]
  rw [e, sumTo_add]
  congr 1
  · apply sumTo_congr
    intro k hk
    rw [h.lk k hk, Int.mul_one]
    congr 1
    unfold finPairs
    rw [List.getD_eq_getElem?_getD, List.getElem?_append_left hk, ← List.getD_eq_getElem?_getD]
  · rw [sum_src]
    apply sumTo_congr
    intro v hv
    by_cases ho : isOut O v = true
    · rw [if_pos ho, if_pos ho]
    · have ho' : isOut O v = false := by simpa using ho
      rw [if_neg ho, if_neg ho]
      obtain ⟨hl, e2⟩ := finPairs_at O reach n hv ho'
      have hs := h.sr v hv ho'
      unfold srcI at hs
      rw [hs]
      have e3 : (finPairs O reach n).getD ((linkPairs O reach n).length + (srcPairs O n v).length) ⟨0, 0, 0, 0⟩ = ⟨2 * n, 2 * v, 0, 0⟩ := by rw [List.getD_eq_getElem?_getD, List.getElem?_eq_getElem hl, e2]; rfl
      rw [e3]
      simp [hv]
def sumP (f : Pr → Int) (ps : List Pr) : Int := (ps.map f).sum
theorem sumP_append (f : Pr → Int) (ps qs : List Pr) : sumP f (ps ++ qs) = sumP f ps + sumP f qs := by simp [sumP]
theorem sumP_filter (f : Pr → Int) (p : Pr → Bool) (ps : List Pr) (h : ∀ x ∈ ps, p x = false → f x = 0) : sumP f (ps.filter p) = sumP f ps := by
  induction ps with
  | nil => rfl
  | cons x ps ih =>
    have hi := ih (fun y hy => h y (List.mem_cons_of_mem _ hy))
    unfold sumP at hi ⊢
    by_cases hp : p x = true
    · rw [List.filter_cons_of_pos hp, List.map_cons, List.map_cons, List.sum_cons, List.sum_cons, hi]
    · rw [List.filter_cons_of_neg hp, List.map_cons, List.sum_cons, hi, h x List.mem_cons_self (by simpa using hp)]
      omega
theorem sumTo_getD (f : Pr → Int) (ps : List Pr) (d : Pr) : ∀ K, K ≤ ps.length → sumTo (fun k => f (ps.getD k d)) K = sumP f (ps.take K) := by
  intro K
  induction K with
  | zero => intro _; simp [sumTo, sumP]
  | succ K ih =>
    intro hK
    show sumTo (fun k => f (ps.getD k d)) K + f (ps.getD K d) = _
    rw [ih (by omega), List.take_add_one, sumP_append, List.getElem?_eq_getElem (by omega), List.getD_eq_getElem?_getD, List.getElem?_eq_getElem (by omega)]
    simp [sumP]
theorem res_modelX (T : Int → Bool) (X : Int → Int → Bool) (V : Nat) (ps : List Pr) (hf : ∀ p ∈ ps, p.full = 1) : res T X (netOf V ps).2 = sumP (cnd T X) ps := by
  rw [res_pairs T X (netOf_arcs _ _) (fun _ => rfl) (rz_net _ _ (fun p hp => .inr (hf p hp))).odd]
  have e := sumTo_getD (cnd T X) ps ⟨0, 0, 0, 0⟩ ps.length (Nat.le_refl _)
  rw [List.take_length] at e
  rw [← e]
  apply sumTo_congr
  intro k hk
  have : roomAt (netOf V ps).2 (2 * k) = 1 := by
    unfold roomAt
    rw [(netOf_even V ps hk).1]
    exact hf _ (List.getElem_mem hk)
  rw [this, Int.mul_one]
theorem sumP_msrc (f : Pr → Int) (S : List Bool) (n sink k : Nat) : sumP f (msrc S n sink true k) = sumTo (fun v => if S.getD v false = true then f ⟨2 * n, 2 * v, 1, 0⟩ else 0) k := by
  induction k with
  | zero => simp [msrc, sumTo, sumP]
  | succ k ih =>
    rw [msrc_succ, sumP_append, ih]
    show _ = sumTo (fun v => if S.getD v false = true then f ⟨2 * n, 2 * v, 1, 0⟩ else 0) k + (if S.getD k false = true then f ⟨2 * n, 2 * k, 1, 0⟩ else 0)
    congr 1
    unfold msrcOf
    rw [Bool.true_or, Bool.and_true]
    by_cases h : S.getD k false = true
    · rw [if_pos h, if_pos h]; simp [sumP]
    · rw [if_neg h, if_neg h]; simp [sumP]
theorem cnd_not {T : Int → Bool} {n sink : Nat} {bl : Option (List Bool)} {p : Pr} (h : okP n sink bl p = false) : cnd T (Xb n sink bl) p = 0 := by
  unfold cnd ind
  rw [if_neg]
  unfold Xb allI
  rw [Int.toNat_natCast, Int.toNat_natCast]
  unfold okP at h
  rw [h]
  simp
theorem mfull {O S : List Bool} {reach : Nat → List Int} {n sink : Nat} {bl : Option (List Bool)} {dr : Bool} : ∀ p ∈ mPairs O S reach n sink bl dr, p.full = 1 := by
  intro p hp
  unfold mPairs at hp
  have hp := (List.mem_filter.1 hp).1
  rcases List.mem_append.1 hp with hp | hp
  · exact full_link hp
  · unfold msrc at hp
    obtain ⟨v, _, h⟩ := List.mem_flatMap.1 hp
    unfold msrcOf at h
    split at h
    · rw [List.mem_singleton] at h; subst h; rfl
    · simp at h
/-- They are the same. -/
theorem res_sameX (T : Int → Bool) {n sink : Nat} {O S : List Bool} {reach : Nat → List Int} {bl : Option (List Bool)} {l : List Arc} (h : Opd n O S reach n l) (hs : ∀ v, v < n → S.getD v false = true → isOut O v = false) : res T (Xb n sink bl) l = res T (Xb n sink bl) (netOf (2 * n + 1) (mPairs O S reach n sink bl true)).2 := by
  rw [res_finderX T (Xb n sink bl) h, res_modelX T (Xb n sink bl) _ _ mfull]
  unfold mPairs
  rw [sumP_filter _ _ _ (fun x _ hx => cnd_not hx), sumP_append, sumP_msrc]
  have e := sumTo_getD (cnd T (Xb n sink bl)) (linkPairs O reach n) ⟨0, 0, 0, 0⟩ _ (Nat.le_refl _)
  rw [List.take_length] at e
  rw [e]
  congr 1
  apply sumTo_congr
  intro v hv
  cases hsv : S.getD v false with
  | false => simp
  | true =>
    have ho := hs v hv hsv
    rw [if_neg (by rw [ho]; simp), if_pos rfl, if_pos rfl, Int.mul_one]
    rfl
/-- Only so many units can leave the source. -/
theorem res_smallX (X : Int → Int → Bool) {n : Nat} {O S : List Bool} {reach : Nat → List Int} {l : List Arc} (h : Opd n O S reach n l) (hl : ∀ p ∈ linkPairs O reach n, p.a < 2 * n) : res (fun z => decide (z = ((2 * n : Nat) : Int))) X l ≤ n := by
  rw [res_finderX _ _ h]
  have e1 : sumTo (fun k => cnd (fun z => decide (z = ((2 * n : Nat) : Int))) X ((linkPairs O reach n).getD k ⟨0, 0, 0, 0⟩)) (linkPairs O reach n).length = 0 := by
    apply sumTo_zero
    intro k hk
    have := hl _ (List.getElem_mem hk)
    have e3 : (linkPairs O reach n).getD k ⟨0, 0, 0, 0⟩ = (linkPairs O reach n)[k] := by simp [hk]
    rw [e3]
    unfold cnd ind
    rw [if_neg]
    have hd : decide (((linkPairs O reach n)[k].a : Int) = ((2 * n : Nat) : Int)) = false := decide_eq_false (by omega)
    show ¬ ((decide (((linkPairs O reach n)[k].a : Int) = ((2 * n : Nat) : Int)) && !decide (((linkPairs O reach n)[k].b : Int) = ((2 * n : Nat) : Int)) && !X ((linkPairs O reach n)[k].a : Int) ((linkPairs O reach n)[k].b : Int)) = true)
    rw [hd]
    simp
  rw [e1, Int.zero_add]
  have key : ∀ k, sumTo (fun v => if isOut O v = true then 0 else cnd (fun z => decide (z = ((2 * n : Nat) : Int))) X ⟨2 * n, 2 * v, 0, 0⟩ * if S.getD v false = true then 1 else 0) k ≤ k := by
    intro k
    induction k with
    | zero => exact Int.le_refl _
    | succ k ih =>
      unfold sumTo
      have : (if isOut O k = true then (0 : Int) else cnd (fun z => decide (z = ((2 * n : Nat) : Int))) X ⟨2 * n, 2 * k, 0, 0⟩ * if S.getD k false = true then 1 else 0) ≤ 1 := by
        split
        · omega
        · rcases ind_01 (((decide (((2 * n : Nat) : Int) = ((2 * n : Nat) : Int))) && !(decide (((2 * k : Nat) : Int) = ((2 * n : Nat) : Int))) && !X ((2 * n : Nat) : Int) ((2 * k : Nat) : Int)) = true) with e | e
          · have : cnd (fun z => decide (z = ((2 * n : Nat) : Int))) X ⟨2 * n, 2 * k, 0, 0⟩ = 0 := e
            rw [this]; omega
          · have : cnd (fun z => decide (z = ((2 * n : Nat) : Int))) X ⟨2 * n, 2 * k, 0, 0⟩ = 1 := e
            rw [this]; split <;> omega
      omega
  exact key n
/-- No room leaves some set with the source. -/
def RefX (n sink : Nat) (bl : Option (List Bool)) (l : List Arc) : Prop := ∃ S : Int → Bool, S ((2 * n : Nat) : Int) = true ∧ S (sink : Int) = false ∧ res S (Xb n sink bl) l = 0
theorem RunX.again {n sink : Nat} {bl : Option (List Bool)} {l0 l l' : List Arc} {ts ts' : List Int} {c : Nat} (h : RunX n sink bl l0 l ts c) (hr : RefX n sink bl l) (h' : RunX n sink bl l0 l' ts' (c + 1)) : False := by
  obtain ⟨S, h1, h2, h3⟩ := hr
  have a := h.res S h1 h2
  have b := h'.res S h1 h2
  have d := res_nonneg (S := S) (X := Xb n sink bl) h'.rm
  omega
theorem RunX.small {n sink : Nat} {bl : Option (List Bool)} {O S : List Bool} {reach : Nat → List Int} {l0 l : List Arc} {ts : List Int} {c : Nat} (h : RunX n sink bl l0 l ts c) (ho : Opd n O S reach n l0) (hl : ∀ p ∈ linkPairs O reach n, p.a < 2 * n) (hs : sink < 2 * n) : c ≤ n := by
  have a := h.res (fun z => decide (z = ((2 * n : Nat) : Int))) (decide_eq_true rfl) (decide_eq_false (by omega))
  have b := res_smallX (Xb n sink bl) ho hl
  have d := res_nonneg (S := fun z => decide (z = ((2 * n : Nat) : Int))) (X := Xb n sink bl) h.rm
  omega
/-- Both counts are the same. -/
theorem countsX {n sink : Nat} {bl : Option (List Bool)} {O S : List Bool} {reach : Nat → List Int} {l0 l m : List Arc} {ts : List Int} {c c' : Nat} (hr : RunX n sink bl l0 l ts c) (hf : RefX n sink bl l) (ho : Opd n O S reach n l0) (hS : ∀ v, v < n → S.getD v false = true → isOut O v = false) (hl : ∀ p ∈ linkPairs O reach n, p.a < 2 * n) (hsk : sink < 2 * n)
    (hX : ∀ a, a < (netOf (2 * n + 1) (mPairs O S reach n sink bl true)).2.length → Xb n sink bl (toAt (netOf (2 * n + 1) (mPairs O S reach n sink bl true)).2 (twin a)) (toAt (netOf (2 * n + 1) (mPairs O S reach n sink bl true)).2 a) = false)
    (htos : ∀ a, a < m.length → ∃ x y : Nat, toAt m (twin a) = (x : Int) ∧ toAt m a = (y : Int))
    (hm : FRun (2 * n) sink (netOf (2 * n + 1) (mPairs O S reach n sink bl true)).2 m c') (hsh : (∃ od, Shut (2 * n) sink m od) ∨ c' = 2 * n + 1 + 1) : c = c' := by
  obtain ⟨q, q1, q2, q3⟩ := hf
  have a1 := hr.res q q1 q2
  have b1 := hm.res q (Xb n sink bl) q1 q2 hX
  have d1 := res_nonneg (S := q) (X := Xb n sink bl) hm.rm
  have e1 := res_sameX (sink := sink) (bl := bl) q ho hS
  rcases hsh with ⟨od, s1, s2, s3⟩ | hsh
  · have p1 : (!outOf od ((2 * n : Nat) : Int)) = true := by
      rw [outOf_false.2 ⟨2 * n, s1, rfl⟩]; rfl
    have p2 : (!outOf od (sink : Int)) = false := by
      cases h : outOf od (sink : Int) with
      | true => rfl
      | false =>
        obtain ⟨v, hv, e⟩ := outOf_false.1 h
        have : v = sink := by omega
        subst this
        exact absurd hv s2
    have z : res (fun z => !outOf od z) (Xb n sink bl) m = 0 := by
      refine sumTo_zero (fun a ha => ?_)
      by_cases hr0 : roomAt m a = 0
      · rw [hr0, Int.mul_zero]
      · have hpos : 0 < roomAt m a := by have := hm.rm.lo a; omega
        obtain ⟨x, y, hx, hy⟩ := htos a ha
        have : leave (fun z => !outOf od z) (Xb n sink bl) m a = 0 := by
          unfold leave ind
          rw [if_neg]
          intro hc
          rw [Bool.and_eq_true, Bool.and_eq_true] at hc
          obtain ⟨⟨c1, c2⟩, _⟩ := hc
          have c1' : outOf od (toAt m (twin a)) = false := by simpa using c1
          obtain ⟨v, hv, ev⟩ := outOf_false.1 c1'
          rw [hx] at ev
          have hvx : v = x := by omega
          subst hvx
          have hyo := s3 a v y ha hx hy hv hpos
          have : outOf od (toAt m a) = false := outOf_false.2 ⟨y, hyo, by rw [hy]⟩
          have c2' : (!(!outOf od (toAt m a))) = true := c2
          rw [this] at c2'
          simp at c2'
        rw [this, Int.zero_mul]
    have b2 := hm.res (fun z => !outOf od z) (Xb n sink bl) p1 p2 hX
    have a2 := hr.res (fun z => !outOf od z) p1 p2
    have d2 := res_nonneg (S := fun z => !outOf od z) (X := Xb n sink bl) hr.rm
    have e2 := res_sameX (sink := sink) (bl := bl) (fun z => !outOf od z) ho hS
    omega
  · exfalso
    have b3 := hm.res (fun z => decide (z = ((2 * n : Nat) : Int))) (Xb n sink bl) (decide_eq_true rfl) (decide_eq_false (by omega)) hX
    have d3 := res_nonneg (S := fun z => decide (z = ((2 * n : Nat) : Int))) (X := Xb n sink bl) hm.rm
    have e3 := res_sameX (sink := sink) (bl := bl) (fun z => decide (z = ((2 * n : Nat) : Int))) ho hS
    have f3 := res_smallX (Xb n sink bl) ho hl
    omega
/-- The law's own network fits. -/
theorem model_okX {O S : List Bool} {reach : Nat → List Int} {n sink : Nat} {bl : Option (List Bool)} (hr : ∀ v, v < n → ∀ z ∈ reach v, 0 ≤ z ∧ z < n) :
    PsOk (2 * n + 1) (mPairs O S reach n sink bl true) (netOf (2 * n + 1) (mPairs O S reach n sink bl true)).2 ∧ Rm (netOf (2 * n + 1) (mPairs O S reach n sink bl true)).2 ∧
    (∀ a, a < (netOf (2 * n + 1) (mPairs O S reach n sink bl true)).2.length → Xb n sink bl (toAt (netOf (2 * n + 1) (mPairs O S reach n sink bl true)).2 (twin a)) (toAt (netOf (2 * n + 1) (mPairs O S reach n sink bl true)).2 a) = false) := by
  obtain ⟨ps, hps⟩ : ∃ ps, mPairs O S reach n sink bl true = ps := ⟨_, rfl⟩
  have hends : ∀ p ∈ ps, p.a < 2 * n + 1 ∧ p.b < 2 * n ∧ okP n sink bl p = true := by
    intro p hp
    rw [← hps] at hp
    unfold mPairs at hp
    obtain ⟨hp, hk⟩ := List.mem_filter.1 hp
    rcases List.mem_append.1 hp with hp | hp
    · have := link_ends hr p hp
      exact ⟨by omega, this.2, hk⟩
    · unfold msrc at hp
      obtain ⟨v, hv, h⟩ := List.mem_flatMap.1 hp
      have hvn := List.mem_range.1 hv
      unfold msrcOf at h
      split at h
      · rw [List.mem_singleton] at h
        subst h
        exact ⟨by show 2 * n < _; omega, by show 2 * v < _; omega, hk⟩
      · simp at h
  have hfl : ∀ p ∈ ps, p.full = 1 := by rw [← hps]; exact mfull
  rw [hps]
  have hlen := netOf_arcs (2 * n + 1) ps
  have hps2 : ∀ a, a < 2 * ps.length → tailOf ps a < 2 * n + 1 ∧ allowB n sink bl (tailOf ps a) = true := fun a ha => by
    obtain ⟨h, e⟩ := tailOf_pair (ps := ps) (a := a) (by omega)
    have h3 := hends _ (List.getElem_mem h)
    have h4 := h3.2.2
    unfold okP at h4
    rw [Bool.and_eq_true] at h4
    rw [e]
    split
    · exact ⟨h3.1, h4.1⟩
    · exact ⟨by omega, h4.2⟩
  refine ⟨⟨hlen, fun a ha => (tail_of hlen (fun _ => rfl) ha).1, fun a ha => (hps2 a (by omega)).1⟩, (rz_net _ _ (fun p hp => .inr (hfl p hp))).rm, fun a ha => ?_⟩
  have ht := tail_of (l := (netOf (2 * n + 1) ps).2) hlen (fun _ => rfl) ha
  rw [ht.1, ht.2]
  exact Xb_false (hps2 a (by omega)).2 (hps2 (twin a) (by unfold twin; split <;> omega)).2
/-- The flow that the finder sends is one. -/
theorem flow_okX {n sink c : Nat} {bl : Option (List Bool)} {O S : List Bool} {reach : Nat → List Int} {l0 l : List Arc} {ts : List Int} (h : RunX n sink bl l0 l ts c) (ho : Opd n O S reach n l0) (hb : (finPairs O reach n).length ≤ 400000) (hsk : sink < 2 * n) (htos : ∀ a, a < l0.length → ∃ y : Nat, toAt l0 a = (y : Int) ∧ y < 2 * n + 1) : FlowOk n sink c l0 l bl := by
  have hl := ho.len
  have hlen := h.len
  refine ⟨h.len.symm, by omega, by omega, fun k _ => ho.rz.odd _ (by omega), h.rm.lo, h.rm.hi, fun k hk => ?_, fun a ha => ?_, fun k y z hk hr hy hz => ?_, fun x hx => ?_⟩
  · have := h.sum (2 * k)
    have e : twin (2 * k) = 2 * k + 1 := by unfold twin; rw [if_pos (by omega)]
    rw [e, ho.rz.odd (2 * k + 1) (by omega)] at this
    omega
  · obtain ⟨y, h1, h2⟩ := htos a (by omega)
    exact ⟨y, by rw [h.tos]; exact h1, h2⟩
  · have h0 := ho.rz.odd (2 * k + 1) (by omega)
    obtain ⟨x1, y1, e1, e2, e3, e4⟩ := h.alw (2 * k + 1) (by omega)
    have et : twin (2 * k + 1) = 2 * k := by unfold twin; rw [if_neg (by omega)]; omega
    rw [et] at e2
    rw [h.tos] at hy hz
    have h1 : y1 = y := by omega
    have h2 : x1 = z := by omega
    subst h1 h2
    exact ⟨e4, e3⟩
  · have e : l.length / 2 = (finPairs O reach n).length := by omega
    rw [e, h.bal _ x hl, balF_none ho.rz.odd, Int.zero_add]
    by_cases e1 : x = 2 * n
    · rw [if_pos e1]
      unfold ind
      rw [if_neg (by omega), if_pos e1.symm]
      omega
    · rw [if_neg e1]
      by_cases e2 : x = sink
      · rw [if_pos e2]
        unfold ind
        rw [if_pos e2.symm, if_neg (by omega)]
        omega
      · rw [if_neg e2]
        unfold ind
        rw [if_neg (by omega), if_neg (by omega)]
        omega
theorem cover_okX {n sink c : Nat} {bl : Option (List Bool)} {l0 l : List Arc} {ts : List Int} (h : RunX n sink bl l0 l ts c) : ∀ a : Nat, a < (l0.map Arc.room).length → (l0.map Arc.room)[a]? ≠ (l.map Arc.room)[a]? → (a : Int) ∈ ts := by
  intro a ha hne
  have ha' : a < l0.length := by simpa using ha
  have hl := h.len
  refine h.cov a (fun e => hne ?_)
  rw [roomAt_get (by omega), roomAt_get ha'] at e
  rw [List.getElem?_map, List.getElem?_map, List.getElem?_eq_getElem ha', List.getElem?_eq_getElem (by omega)]
  simp [e]
/-- Costs of the pairs. -/
theorem pair_costs (O : List Bool) (reach : Nat → List Int) (n : Nat) : ∀ p ∈ finPairs O reach n, (p.cost = 0 ∨ p.cost = 1) ∧ (p.a = 2 * n → p.cost = 0 ∨ p ∈ linkPairs O reach n) := by
  intro p hp
  unfold finPairs at hp
  rcases List.mem_append.1 hp with h | h
  · refine ⟨?_, fun _ => .inr h⟩
    unfold linkPairs at h
    obtain ⟨v, _, h⟩ := List.mem_flatMap.1 h
    unfold genOf at h
    split at h
    · simp at h
    · rcases List.mem_cons.1 h with rfl | h
      · exact .inl rfl
      · unfold linkOf at h
        obtain ⟨z, _, rfl⟩ := List.mem_map.1 h
        exact .inr rfl
  · unfold srcPairs at h
    obtain ⟨v, _, h⟩ := List.mem_flatMap.1 h
    unfold srcOf at h
    split at h
    · simp at h
    · rw [List.mem_singleton] at h
      subst h
      exact ⟨.inl rfl, fun _ => .inl rfl⟩
theorem cost_net (V : Nat) (ps : List Pr) {k : Nat} (h : k < ps.length) : costAt (netOf V ps).2 (2 * k) = ps[k].cost ∧ costAt (netOf V ps).2 (2 * k + 1) = - ps[k].cost := by
  have hm := netOf_even V ps h
  unfold costAt
  rw [hm.1, hm.2]
  exact ⟨rfl, rfl⟩
theorem cst_opd {n : Nat} {O S : List Bool} {reach : Nat → List Int} {k : Nat} {l : List Arc} (ho : Opd n O S reach k l) (hc : ∀ a, costAt l a = costAt (netOf (2 * n + 1) (finPairs O reach n)).2 a) (hr : ∀ v, v < n → ∀ z ∈ reach v, 0 ≤ z ∧ z < n) : Cst n l ∧ ∀ a, a % 2 = 0 → 0 ≤ costAt l a := by
  have hlen := ho.len
  have key : ∀ a, a < l.length → ∃ h : a / 2 < (finPairs O reach n).length, costAt l a = if a % 2 = 0 then (finPairs O reach n)[a / 2].cost else - (finPairs O reach n)[a / 2].cost := by
    intro a ha
    have h : a / 2 < (finPairs O reach n).length := by omega
    refine ⟨h, ?_⟩
    have hm := cost_net (2 * n + 1) (finPairs O reach n) h
    rw [hc]
    by_cases e : a % 2 = 0
    · rw [if_pos e]
      have : 2 * (a / 2) = a := by omega
      rw [this] at hm
      exact hm.1
    · rw [if_neg e]
      have : 2 * (a / 2) + 1 = a := by omega
      rw [this] at hm
      exact hm.2
  have out : ∀ a, ¬ a < l.length → costAt l a = 0 := fun a ha => by
    unfold costAt
    rw [List.getElem?_eq_none (by omega)]
  have pc : ∀ k, (h : k < (finPairs O reach n).length) → (finPairs O reach n)[k].cost = 0 ∨ (finPairs O reach n)[k].cost = 1 := fun k h => (pair_costs O reach n _ (List.getElem_mem h)).1
  refine ⟨⟨fun a => ?_, fun a => ?_, fun a ha => ?_, fun a ha ht => ?_⟩, fun a he => ?_⟩
  · by_cases ha : a < l.length
    · obtain ⟨h, e⟩ := key a ha
      have := pc _ h
      rw [e]; split <;> omega
    · rw [out a ha]; omega
  · by_cases ha : a < l.length
    · obtain ⟨h, e⟩ := key a ha
      have := pc _ h
      rw [e]; split <;> omega
    · rw [out a ha]; omega
  · have hat : twin a < l.length := by unfold twin; split <;> omega
    obtain ⟨h, e⟩ := key a ha
    obtain ⟨h2, e2⟩ := key (twin a) hat
    rw [e, e2]
    have e3 : twin a / 2 = a / 2 := by unfold twin; split <;> omega
    have e4 : (finPairs O reach n)[twin a / 2] = (finPairs O reach n)[a / 2] := by simp only [e3]
    rw [e4]
    by_cases hp : a % 2 = 0
    · have : ¬ twin a % 2 = 0 := by unfold twin; rw [if_pos hp]; omega
      rw [if_neg this, if_pos hp]
    · have : twin a % 2 = 0 := by unfold twin; rw [if_neg hp]; omega
      rw [if_pos this, if_neg hp]; omega
  · obtain ⟨h, e⟩ := key a ha
    have ht2 := (tail_of ho.len ho.tos ha).2
    have hat : twin a < 2 * (finPairs O reach n).length := by unfold twin; split <;> omega
    obtain ⟨h2, e2⟩ := tailOf_pair (ps := finPairs O reach n) (a := twin a) hat
    have e3 : twin a / 2 = a / 2 := by unfold twin; split <;> omega
    have e4 : (finPairs O reach n)[twin a / 2] = (finPairs O reach n)[a / 2] := by simp only [e3]
    rw [e4] at e2
    have hm : (finPairs O reach n)[a / 2] ∈ finPairs O reach n := List.getElem_mem h
    have hpc := pair_costs O reach n _ hm
    rw [e]
    by_cases hp : a % 2 = 0
    · rw [if_pos hp]; rcases hpc.1 with h | h <;> omega
    · have htw : twin a % 2 = 0 := by unfold twin; rw [if_neg hp]; omega
      rw [if_pos htw] at e2
      rw [if_neg hp]
      have ha2 : (finPairs O reach n)[a / 2].a = 2 * n := by omega
      rcases hpc.2 ha2 with h | h
      · omega
      · have := (link_ends hr _ h).1; omega
  · by_cases ha : a < l.length
    · obtain ⟨h, e⟩ := key a ha
      have := pc _ h
      rw [e, if_pos he]; omega
    · rw [out a ha]; omega
/-- At the start nothing has a height. -/
theorem pot_zero {n sink : Nat} {bl : Option (List Bool)} {l : List Arc} (hz : Rz l) (hc : ∀ a, a % 2 = 0 → 0 ≤ costAt l a) : Pot n sink bl l (fun _ => 0) := by
  refine ⟨rfl, fun _ => Int.le_refl _, fun _ => Int.le_refl _, by show (0 : Int) ≤ 2 * (n : Int); omega, fun a x y _ _ _ hr _ _ => ?_⟩
  have he : a % 2 = 0 := by
    by_cases e : a % 2 = 0
    · exact e
    · exact absurd (hz.odd a (by omega)) hr
  have := hc a he
  show (0 : Int) ≤ 0 + costAt l a
  omega
end Go.Proofs.Qxb6605292a
