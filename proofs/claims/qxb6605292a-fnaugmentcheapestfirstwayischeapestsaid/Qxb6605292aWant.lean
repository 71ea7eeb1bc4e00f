/-
  The network as plain lists, read back: counts of pairs, arcs by place, rows by tail.
-/
import Derived.Test.Qxb6605292aFinC
namespace Go.Proofs.Qxb6605292a

def key (V : Nat) (p : Pr) : Nat := p.a * V + p.b
def cnt (V : Nat) (ps : List Pr) (c : Nat) : Nat := ps.countP (fun p => key V p == c)
def wantL (V : Nat) (ps : List Pr) : List Int := (List.range (V * V)).map fun c => (cnt V ps c : Int)
theorem wantL_len (V : Nat) (ps : List Pr) : (wantL V ps).length = V * V := by simp [wantL]
theorem wantL_get (V : Nat) (ps : List Pr) {c : Nat} (h : c < V * V) : (wantL V ps)[c]? = some (cnt V ps c : Int) := by simp [wantL, h]
theorem cnt_le (V : Nat) (ps : List Pr) (c : Nat) : cnt V ps c ≤ ps.length := List.countP_le_length
theorem cnt_append (V : Nat) (ps qs : List Pr) (c : Nat) : cnt V (ps ++ qs) c = cnt V ps c + cnt V qs c := List.countP_append
theorem cnt_one (V : Nat) (p : Pr) (c : Nat) : cnt V [p] c = if key V p = c then 1 else 0 := by
  unfold cnt
  rw [List.countP_cons, List.countP_nil]
  by_cases h : key V p = c <;> simp [h]
theorem wantL_congr {V : Nat} {ps qs : List Pr} (h : ∀ c, cnt V ps c = cnt V qs c) : wantL V ps = wantL V qs := by
  unfold wantL
  exact List.map_congr_left fun c _ => by rw [h c]
theorem wantL_nil (V : Nat) : wantL V [] = List.replicate (V * V) 0 := by
  apply List.ext_getElem?
  intro j
  by_cases h : j < V * V
  · rw [wantL_get _ _ h, List.getElem?_replicate, if_pos h]; rfl
  · rw [List.getElem?_eq_none (by rw [wantL_len]; omega), List.getElem?_eq_none (by rw [List.length_replicate]; omega)]
theorem wantL_add (V : Nat) (ps : List Pr) (p : Pr) (hp : key V p < V * V) : (wantL V ps).set (key V p) ((cnt V ps (key V p) : Int) + 1) = wantL V (ps ++ [p]) := by
  apply List.ext_getElem?
  intro j
  by_cases h : j < V * V
  · rw [wantL_get _ _ h, cnt_append, cnt_one]
    by_cases e : key V p = j
    · rw [← e, List.getElem?_set_self (by rw [wantL_len]; exact hp), if_pos rfl]; rfl
    · rw [List.getElem?_set_ne e, wantL_get _ _ h, if_neg e]; rfl
  · rw [List.getElem?_eq_none (by rw [List.length_set, wantL_len]; omega), List.getElem?_eq_none (by rw [wantL_len]; omega)]
theorem wantL_sub (V : Nat) (ps : List Pr) (p : Pr) (hp : key V p < V * V) : (wantL V (p :: ps)).set (key V p) ((cnt V (p :: ps) (key V p) : Int) - 1) = wantL V ps := by
  have hc : ∀ c, cnt V (p :: ps) c = (if key V p = c then 1 else 0) + cnt V ps c := fun c => by
    rw [← cnt_one V p c, ← cnt_append]; rfl
  apply List.ext_getElem?
  intro j
  by_cases h : j < V * V
  · rw [wantL_get _ _ h]
    by_cases e : key V p = j
    · rw [← e, List.getElem?_set_self (by rw [wantL_len]; exact hp), hc, if_pos rfl]
      congr 1
      omega
    · rw [List.getElem?_set_ne e, wantL_get _ _ h, hc, if_neg e]; simp
  · rw [List.getElem?_eq_none (by rw [List.length_set, wantL_len]; omega), List.getElem?_eq_none (by rw [wantL_len]; omega)]
theorem cnt_head (V : Nat) (ps : List Pr) (p : Pr) : 1 ≤ cnt V (p :: ps) (key V p) := by
  have : cnt V (p :: ps) (key V p) = (if key V p = key V p then 1 else 0) + cnt V ps (key V p) := by rw [← cnt_one V p, ← cnt_append]; rfl
  rw [this, if_pos rfl]; omega

/-! ### the arcs by place -/
theorem netOf_even (V : Nat) (ps : List Pr) {k : Nat} (h : k < ps.length) : (netOf V ps).2[2 * k]? = some ⟨ps[k].b, ps[k].full, ps[k].full, ps[k].cost⟩ ∧ (netOf V ps).2[2 * k + 1]? = some ⟨ps[k].a, 0, 0, -ps[k].cost⟩ := by
  have key : ∀ (m : Nat) (ps : List Pr), ps.length = m → ∀ k, (h : k < ps.length) → (netOf V ps).2[2 * k]? = some ⟨ps[k].b, ps[k].full, ps[k].full, ps[k].cost⟩ ∧ (netOf V ps).2[2 * k + 1]? = some ⟨ps[k].a, 0, 0, -ps[k].cost⟩ := by
    intro m
    induction m with
    | zero => intro ps hl k h; omega
    | succ m ih =>
      intro ps hl k h
      obtain ⟨qs, p, rfl⟩ : ∃ qs p, ps = qs ++ [p] := ⟨ps.dropLast, ps.getLast (by intro e; subst e; simp at hl), (List.dropLast_concat_getLast _).symm⟩
      have hql : qs.length = m := by simpa using hl
      have hn := netOf_arcs V qs
      rw [netOf_snoc]
      unfold addPair
      by_cases e : k < m
      · have := ih qs hql k (by omega)
        have hg : (qs ++ [p])[k] = qs[k]'(by omega) := List.getElem_append_left (by omega)
        rw [hg]
        constructor
        · rw [List.append_assoc, List.getElem?_append_left (by omega)]; exact this.1
        · rw [List.append_assoc, List.getElem?_append_left (by omega)]; exact this.2
      · have ek : k = m := by simp at h; omega
        subst ek
        have hg : (qs ++ [p])[k] = p := by
          rw [List.getElem_append_right (by omega)]; simp [hql]
        rw [hg]
        constructor
        · rw [List.append_assoc, List.getElem?_append_right (by omega)]
          have : 2 * k - (netOf V qs).2.length = 0 := by omega
          rw [this]; rfl
        · rw [List.append_assoc, List.getElem?_append_right (by omega)]
          have : 2 * k + 1 - (netOf V qs).2.length = 1 := by omega
          rw [this]; rfl
  exact key ps.length ps rfl k h

/-- The tail of arc a. -/
def tailOf (ps : List Pr) (a : Nat) : Nat := if a % 2 = 0 then (ps.getD (a / 2) ⟨0, 0, 0, 0⟩).a else (ps.getD (a / 2) ⟨0, 0, 0, 0⟩).b
theorem netOf_rows (V : Nat) (ps : List Pr) (hv : ∀ p ∈ ps, p.a < V ∧ p.b < V) (x : Nat) (hx : x < V) : (netOf V ps).1.getD x [] = ((List.range (2 * ps.length)).filter fun a => tailOf ps a == x).map Int.ofNat := by
  have key : ∀ (m : Nat) (ps : List Pr), ps.length = m → (∀ p ∈ ps, p.a < V ∧ p.b < V) → ∀ x, x < V → (netOf V ps).1.getD x [] = ((List.range (2 * ps.length)).filter fun a => tailOf ps a == x).map Int.ofNat := by
    intro m
    induction m with
    | zero =>
      intro ps hl _ x hx
      have : ps = [] := List.eq_nil_of_length_eq_zero hl
      subst this
      simp [netOf, lay, hx]
    | succ m ih =>
      intro ps hl hv x hx
      obtain ⟨qs, p, rfl⟩ : ∃ qs p, ps = qs ++ [p] := ⟨ps.dropLast, ps.getLast (by intro e; subst e; simp at hl), (List.dropLast_concat_getLast _).symm⟩
      have hql : qs.length = m := by simpa using hl
      have hn := netOf_arcs V qs
      have hr := netOf_len V qs
      have hp := hv p (by simp)
      have hih := ih qs hql (fun q hq => hv q (by simp [hq]))
      have ht1 : ∀ a, a < 2 * m → tailOf (qs ++ [p]) a = tailOf qs a := by
        intro a ha
        unfold tailOf
        have : (qs ++ [p]).getD (a / 2) ⟨0, 0, 0, 0⟩ = qs.getD (a / 2) ⟨0, 0, 0, 0⟩ := by
          rw [List.getD_eq_getElem?_getD, List.getD_eq_getElem?_getD, List.getElem?_append_left (by omega)]
        rw [this]
      have hpg : (qs ++ [p]).getD m ⟨0, 0, 0, 0⟩ = p := by
        rw [List.getD_eq_getElem?_getD, List.getElem?_append_right (by omega)]; simp [hql]
      have ht2 : tailOf (qs ++ [p]) (2 * m) = p.a := by
        unfold tailOf
        rw [if_pos (by omega), show 2 * m / 2 = m by omega, hpg]
      have ht3 : tailOf (qs ++ [p]) (2 * m + 1) = p.b := by
        unfold tailOf
        rw [if_neg (by omega), show (2 * m + 1) / 2 = m by omega, hpg]
      have hrange : List.range (2 * (qs ++ [p]).length) = List.range (2 * m) ++ [2 * m, 2 * m + 1] := by
        rw [List.length_append, hql]
        simp only [List.length_cons, List.length_nil]
        rw [show 2 * (m + (0 + 1)) = 2 * m + 1 + 1 by omega, List.range_succ, List.range_succ]
        simp
      rw [hrange, List.filter_append, List.map_append]
      have hfil : (List.range (2 * m)).filter (fun a => tailOf (qs ++ [p]) a == x) = (List.range (2 * m)).filter (fun a => tailOf qs a == x) := by
        apply List.filter_congr
        intro a ha
        rw [ht1 a (by simpa using ha)]
      rw [hfil, netOf_snoc]
      have hrow := hih x hx
      rw [hql] at hrow
      rw [← hrow]
      unfold addPair
      rw [hn, hql]
      simp only [List.filter_cons, List.filter_nil, ht2, ht3]
      by_cases e1 : p.b = x
      · subst e1
        rw [List.getD_eq_getElem?_getD, List.getElem?_set_self (by rw [List.length_set]; omega)]
        by_cases e2 : p.a = p.b
        · rw [e2]
          rw [List.getD_eq_getElem?_getD, List.getElem?_set_self (by omega)]
          simp
        · rw [List.getD_eq_getElem?_getD, List.getElem?_set_ne e2]
          simp [e2]
      · rw [List.getD_eq_getElem?_getD, List.getElem?_set_ne e1]
        by_cases e2 : p.a = x
        · subst e2
          rw [List.getElem?_set_self (by omega)]
          simp [e1]
        · rw [List.getElem?_set_ne e2]
          simp [e1, e2]
  exact key ps.length ps rfl hv x hx

/-- The sort of a pair that finder lays. -/
structure PairOk (n : Nat) (p : Pr) : Prop where
  a : p.a < 2 * n + 1
  b : p.b < 2 * n + 1
  full : p.full = if p.a = 2 * n then 0 else 1
  cost : p.cost = if p.a = 2 * n then 0 else if p.a % 2 = 0 then 0 else 1
theorem finPairs_ok (out : List Bool) (reach : Nat → List Int) (n : Nat) (hr : ∀ v, v < n → ∀ z ∈ reach v, 0 ≤ z ∧ z < n) : ∀ p ∈ finPairs out reach n, PairOk n p := by
  intro p hp
  unfold finPairs at hp
  rcases List.mem_append.1 hp with h | h
  · unfold linkPairs at h
    obtain ⟨v, hv, h⟩ := List.mem_flatMap.1 h
    have hvn : v < n := by simpa using hv
    unfold genOf at h
    split at h
    · simp at h
    · rcases List.mem_cons.1 h with rfl | h
      · exact ⟨by show 2 * v < _; omega, by show 2 * v + 1 < _; omega, by show (1 : Int) = if 2 * v = 2 * n then 0 else 1; rw [if_neg (by omega)], by show (0 : Int) = if 2 * v = 2 * n then 0 else if 2 * v % 2 = 0 then 0 else 1; rw [if_neg (by omega), if_pos (by omega)]⟩
      · unfold linkOf at h
        obtain ⟨z, hz, rfl⟩ := List.mem_map.1 h
        have hz' := hr v hvn z (List.mem_filter.1 hz).1
        have hzn : z.toNat < n := by omega
        exact ⟨by show 2 * v + 1 < _; omega, by show 2 * z.toNat < _; omega, by show (1 : Int) = if 2 * v + 1 = 2 * n then 0 else 1; rw [if_neg (by omega)], by show (1 : Int) = if 2 * v + 1 = 2 * n then 0 else if (2 * v + 1) % 2 = 0 then 0 else 1; rw [if_neg (by omega), if_neg (by omega)]⟩
  · unfold srcPairs at h
    obtain ⟨v, hv, h⟩ := List.mem_flatMap.1 h
    have hvn : v < n := by simpa using hv
    unfold srcOf at h
    split at h
    · simp at h
    · rw [List.mem_singleton] at h
      subst h
      exact ⟨by show 2 * n < _; omega, by show 2 * v < _; omega, by show (0 : Int) = if 2 * n = 2 * n then 0 else 1; rw [if_pos rfl], by show (0 : Int) = if 2 * n = 2 * n then 0 else _; rw [if_pos rfl]⟩
theorem srcPairs_prefix (out : List Bool) (n : Nat) {v k : Nat} (h : v < k) (ho : isOut out v = false) : (srcPairs out n k)[(srcPairs out n v).length]? = some ⟨2 * n, 2 * v, 0, 0⟩ := by
  induction k with
  | zero => omega
  | succ k ih =>
    rw [srcPairs_succ]
    by_cases e : v = k
    · subst e
      rw [List.getElem?_append_right (Nat.le_refl _), Nat.sub_self]
      unfold srcOf
      rw [ho]; rfl
    · have := ih (by omega)
      rw [List.getElem?_append_left (List.getElem?_eq_some_iff.1 this).1]; exact this
/-- Where the source arc of v lies. -/
theorem finPairs_src (out : List Bool) (reach : Nat → List Int) (n : Nat) {v : Nat} (h : v < n) (ho : isOut out v = false) :
    (finPairs out reach n)[(linkPairs out reach n).length + (srcPairs out n v).length]? = some ⟨2 * n, 2 * v, 0, 0⟩ := by
  unfold finPairs
  rw [List.getElem?_append_right (by omega), show (linkPairs out reach n).length + (srcPairs out n v).length - (linkPairs out reach n).length = (srcPairs out n v).length by omega]
  exact srcPairs_prefix out n h ho

/-! ### what has been seen -/
/-- Arc a has been seen when x rows and j of row x have been read. -/
def seenL (ps : List Pr) (x : Nat) (row : List Int) : List Bool := (List.range (2 * ps.length)).map fun a => decide (tailOf ps a < x) || row.contains (a : Int)
theorem seenL_len (ps : List Pr) (x : Nat) (row : List Int) : (seenL ps x row).length = 2 * ps.length := by simp [seenL]
theorem seenL_get (ps : List Pr) (x : Nat) (row : List Int) {a : Nat} (h : a < 2 * ps.length) : (seenL ps x row)[a]? = some (decide (tailOf ps a < x) || row.contains (a : Int)) := by simp [seenL, h]
def rowL (ps : List Pr) (x : Nat) : List Int := ((List.range (2 * ps.length)).filter fun a => tailOf ps a == x).map Int.ofNat
theorem rowL_mem (ps : List Pr) (x a : Nat) : (a : Int) ∈ rowL ps x ↔ a < 2 * ps.length ∧ tailOf ps a = x := by
  unfold rowL
  rw [List.mem_map]
  constructor
  · rintro ⟨b, hb, e⟩
    have : b = a := Int.ofNat.inj e
    subst this
    have := List.mem_filter.1 hb
    exact ⟨by simpa using this.1, by simpa using this.2⟩
  · rintro ⟨h1, h2⟩
    exact ⟨a, List.mem_filter.2 ⟨by simpa using h1, by simpa using h2⟩, rfl⟩
theorem rowL_nodup (ps : List Pr) (x : Nat) : (rowL ps x).Nodup := by
  unfold rowL
  exact List.Pairwise.map Int.ofNat (fun a b (hne : a ≠ b) e => hne (Int.ofNat.inj e)) (List.nodup_range.filter _)
theorem seenL_zero (ps : List Pr) : seenL ps 0 [] = List.replicate (2 * ps.length) false := by
  apply List.ext_getElem?
  intro j
  by_cases h : j < 2 * ps.length
  · rw [seenL_get _ _ _ h, List.getElem?_replicate, if_pos h]; simp
  · rw [List.getElem?_eq_none (by rw [seenL_len]; omega), List.getElem?_eq_none (by rw [List.length_replicate]; omega)]
theorem seenL_row (ps : List Pr) (x : Nat) : seenL ps x (rowL ps x) = seenL ps (x + 1) [] := by
  apply List.ext_getElem?
  intro j
  by_cases h : j < 2 * ps.length
  · rw [seenL_get _ _ _ h, seenL_get _ _ _ h]
    congr 1
    have hm := rowL_mem ps x j
    rw [Bool.eq_iff_iff]
    simp only [Bool.or_eq_true, decide_eq_true_eq, List.contains_iff_mem, hm, List.not_mem_nil, or_false]
    omega
  · rw [List.getElem?_eq_none (by rw [seenL_len]; omega), List.getElem?_eq_none (by rw [seenL_len]; omega)]
/-- One more entry of the row. -/
theorem seenL_step (ps : List Pr) (x j : Nat) (hj : j < (rowL ps x).length) : ∃ a : Nat, (rowL ps x)[j] = (a : Int) ∧ a < 2 * ps.length ∧ tailOf ps a = x ∧
    (seenL ps x ((rowL ps x).take j))[a]? = some false ∧ (seenL ps x ((rowL ps x).take j)).set a true = seenL ps x ((rowL ps x).take (j + 1)) := by
  have hmem : (rowL ps x)[j] ∈ rowL ps x := List.getElem_mem hj
  obtain ⟨a, ha⟩ : ∃ a : Nat, (rowL ps x)[j] = (a : Int) := by
    unfold rowL at hmem
    obtain ⟨b, _, e⟩ := List.mem_map.1 hmem
    exact ⟨b, e.symm⟩
  rw [ha] at hmem
  obtain ⟨h1, h2⟩ := (rowL_mem ps x a).1 hmem
  have hnt : (a : Int) ∉ (rowL ps x).take j := by
    intro hin
    obtain ⟨i, hi, e⟩ := List.mem_take_iff_getElem.1 hin
    have hij : i < j := by omega
    have := List.getElem_inj (h₀ := by omega) (h₁ := hj) (rowL_nodup ps x) (i := i) (j := j)
    rw [ha] at this
    have := this.1 e
    omega
  refine ⟨a, ha, h1, h2, ?_, ?_⟩
  · rw [seenL_get _ _ _ h1]
    congr 1
    rw [h2]
    simp only [Nat.lt_irrefl, decide_false, Bool.false_or]
    rw [Bool.eq_false_iff]
    intro hc
    exact hnt (List.contains_iff_mem.1 hc)
  · rw [List.take_succ_eq_append_getElem hj, ha]
    apply List.ext_getElem?
    intro i
    by_cases h : i < 2 * ps.length
    · rw [seenL_get _ _ _ h]
      by_cases e : a = i
      · subst e
        rw [List.getElem?_set_self (by rw [seenL_len]; omega)]
        congr 1
        simp
      · rw [List.getElem?_set_ne e, seenL_get _ _ _ h]
        congr 1
        rw [Bool.eq_iff_iff]
        simp only [Bool.or_eq_true, decide_eq_true_eq, List.contains_iff_mem, List.mem_append, List.mem_singleton]
        have : ¬ ((i : Int) = (a : Int)) := by omega
        simp [this]
    · rw [List.getElem?_eq_none (by rw [List.length_set, seenL_len]; omega), List.getElem?_eq_none (by rw [seenL_len]; omega)]
theorem seenL_count_step {l : List Bool} {a : Nat} (h : l[a]? = some false) : (l.set a true).count true = l.count true + 1 := by
  obtain ⟨hl, e⟩ := List.getElem?_eq_some_iff.1 h
  rw [List.count_set hl, e]
  simp
theorem seenL_count_all (ps : List Pr) (V : Nat) (h : ∀ a, a < 2 * ps.length → tailOf ps a < V) : (seenL ps V []).count true = 2 * ps.length := by
  have : seenL ps V [] = List.replicate (2 * ps.length) true := by
    apply List.ext_getElem?
    intro j
    by_cases hj : j < 2 * ps.length
    · rw [seenL_get _ _ _ hj, List.getElem?_replicate, if_pos hj]
      simp [h j hj]
    · rw [List.getElem?_eq_none (by rw [seenL_len]; omega), List.getElem?_eq_none (by rw [List.length_replicate]; omega)]
  rw [this, List.count_replicate_self]
theorem tailOf_lt (n : Nat) (ps : List Pr) (h : ∀ p ∈ ps, PairOk n p) {a : Nat} (ha : a < 2 * ps.length) : tailOf ps a < 2 * n + 1 := by
  unfold tailOf
  have hl : a / 2 < ps.length := by omega
  have e : ps.getD (a / 2) ⟨0, 0, 0, 0⟩ = ps[a / 2] := by simp [hl]
  have hk := h ps[a / 2] (List.getElem_mem hl)
  rw [e]
  split
  · exact hk.a
  · exact hk.b
/-- Arc a's twin's head is a's tail. -/
theorem netOf_twin (V : Nat) (ps : List Pr) {a : Nat} (ha : a < 2 * ps.length) : ∃ r f c, (netOf V ps).2[if a % 2 = 0 then a + 1 else a - 1]? = some ⟨tailOf ps a, r, f, c⟩ := by
  have hl : a / 2 < ps.length := by omega
  have e : ps.getD (a / 2) ⟨0, 0, 0, 0⟩ = ps[a / 2] := by simp [hl]
  have h := netOf_even V ps hl
  unfold tailOf
  rw [e]
  by_cases h2 : a % 2 = 0
  · rw [if_pos h2, if_pos h2, show a + 1 = 2 * (a / 2) + 1 by omega, h.2]; exact ⟨_, _, _, rfl⟩
  · rw [if_neg h2, if_neg h2, show a - 1 = 2 * (a / 2) by omega, h.1]; exact ⟨_, _, _, rfl⟩
end Go.Proofs.Qxb6605292a
