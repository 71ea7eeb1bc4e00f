/-
  The label-correcting search at its end, plainly: the way is tight, the new potential, what c ways have done, the set that no room leaves.
-/
import Derived.Test.Qxb6605292aSpfa
import Derived.Test.Qxb6605292aGame
namespace Go.Proofs.Qxb6605292a

/-- Node z may carry a unit. -/
def allI (n sink : Nat) (bl : Option (List Bool)) (z : Int) : Bool := allowB n sink bl z.toNat
/-- Arcs of which one end is not allowed stand aside. -/
def Xb (n sink : Nat) (bl : Option (List Bool)) (t h : Int) : Bool := !(allI n sink bl t && allI n sink bl h)
theorem Xb_false {n sink : Nat} {bl : Option (List Bool)} {x y : Nat} (hx : allowB n sink bl x = true) (hy : allowB n sink bl y = true) : Xb n sink bl (x : Int) (y : Int) = false := by
  unfold Xb allI
  rw [Int.toNat_natCast, Int.toNat_natCast, hx, hy]; rfl
theorem Xb_ends {n sink : Nat} {bl : Option (List Bool)} {x y : Nat} (h : Xb n sink bl (x : Int) (y : Int) = false) : allowB n sink bl x = true ∧ allowB n sink bl y = true := by
  unfold Xb allI at h
  rw [Int.toNat_natCast, Int.toNat_natCast] at h
  simp at h
  exact h
theorem BW.balance {l : List Arc} {vi : List Int} {x s : Nat} {ns ar : List Nat} (h : BW l vi x s ns ar) (z : Nat) : sumL (fun a => ind (toAt l a = (z : Int)) - ind (toAt l (twin a) = (z : Int))) ar = ind (x = z) - ind (s = z) := by
  have := h.tele (fun y => - ind (y = (z : Int))) (fun a => ind (toAt l a = (z : Int)) - ind (toAt l (twin a) = (z : Int))) (fun a ha => by omega)
  rw [this]
  have e1 : ind ((x : Int) = (z : Int)) = ind (x = z) := by unfold ind; simp only [Int.ofNat_inj]
  have e2 : ind ((s : Int) = (z : Int)) = ind (s = z) := by unfold ind; simp only [Int.ofNat_inj]
  show - ind ((s : Int) = (z : Int)) - - ind ((x : Int) = (z : Int)) = _
  rw [e1, e2]; omega
/-- What is known of the way. -/
structure Wy (n sink : Nat) (l : List Arc) (pt : Nat → Int) (vi ds : List Int) (od ns ar : List Nat) : Prop where
  bw : BW l vi sink (2 * n) ns ar
  nsod : ∀ z ∈ ns, z ∈ od ∧ lbA ds z - pt z ≤ lbA ds sink - pt sink
  arcs : ∀ a ∈ ar, ∃ u z : Nat, toAt l a = (z : Int) ∧ toAt l (twin a) = (u : Int) ∧ z ∈ ns ∧ u ∈ ns ∧ u ≠ sink ∧ z ≠ 2 * n ∧ lbA ds u + costAt l a ≤ lbA ds z
section
variable {n sink : Nat} {bl : Option (List Bool)} {W : Int} {l : List Arc} {pt : Nat → Int} {sn vi ds qd : List Int} {q od : List Nat} {tm : Nat → Nat} {k : Nat}
theorem SI.way {p : Nat} {Ex : Nat → Nat → Prop} (h : SI n sink bl W l pt sn vi ds qd q od tm k p Ex) (hs : sink ∈ od) : ∃ ns ar, Wy n sink l pt vi ds od ns ar := by
  have hl := h.lo sink hs
  obtain ⟨ns, ar, g1, g2, g3⟩ := h.back (lbA ds sink - pt sink).toNat (tm sink) sink hs (by omega) rfl
  exact ⟨ns, ar, g1, fun z hz => ⟨(g2 z hz).1, by have := (g2 z hz).2; omega⟩, g3⟩
/-- Nothing waits. -/
theorem SI.shut (h : SI n sink bl W l pt sn vi ds qd q od tm k q.length NoEx) {x : Nat} (hx : x ∈ od) (hs : x ≠ sink) {a y : Nat} (ha : a < l.length) (ht : toAt l (twin a) = (x : Int)) (hy : toAt l a = (y : Int)) (hr : roomAt l a ≠ 0) (hy0 : y ≠ 2 * n) (hya : allowB n sink bl y = true) : y ∈ od ∧ lbA ds y ≤ lbA ds x + costAt l a :=
  h.done x hx (by rw [List.drop_length]; simp) hs a y ha ht hy hr hy0 hya id
theorem Wy.tight {ns ar : List Nat} (hw : Wy n sink l pt vi ds od ns ar) (h : SI n sink bl W l pt sn vi ds qd q od tm k q.length NoEx) {a : Nat} (ha : a ∈ ar) : ∃ u z : Nat, toAt l a = (z : Int) ∧ toAt l (twin a) = (u : Int) ∧ z ∈ ns ∧ u ∈ ns ∧ lbA ds z = lbA ds u + costAt l a := by
  obtain ⟨u, z, a1, a2, a3, a4, a5, a6, a7⟩ := hw.arcs a ha
  obtain ⟨i, hi⟩ := List.mem_iff_getElem?.1 ha
  obtain ⟨_, _, _, _, _, b1, _, _, b2⟩ := hw.bw.arc i a hi
  have := (h.shut (hw.nsod u a4).1 a5 b1 a2 a1 b2 a6 (h.al z (hw.nsod z a3).1)).2
  exact ⟨u, z, a1, a2, a3, a4, by omega⟩
/-- What the way costs. -/
theorem Wy.cost {ns ar : List Nat} (hw : Wy n sink l pt vi ds od ns ar) (h : SI n sink bl W l pt sn vi ds qd q od tm k q.length NoEx) : sumL (costAt l) ar = lbA ds sink := by
  have := hw.bw.tele (fun z => - lbA ds z.toNat) (costAt l) (fun a ha => by
    obtain ⟨u, z, a1, a2, _, _, a5⟩ := hw.tight h ha
    show costAt l a = - lbA ds (toAt l (twin a)).toNat - - lbA ds (toAt l a).toNat
    rw [a1, a2, Int.toNat_natCast, Int.toNat_natCast]
    omega)
  rw [this]
  have hd := h.d0
  show - lbA ds ((2 * n : Nat) : Int).toNat - - lbA ds ((sink : Nat) : Int).toNat = _
  rw [Int.toNat_natCast, Int.toNat_natCast, hd]
  omega
def minI (a b : Int) : Int := if a ≤ b then a else b
/-- The next potential. -/
def newPt (pt : Nat → Int) (ds : List Int) (od : List Nat) (sink x : Nat) : Int := pt x + minI (if x ∈ od then lbA ds x - pt x else lbA ds sink - pt sink) (lbA ds sink - pt sink)
theorem newPt_in {x : Nat} (hx : x ∈ od) : newPt pt ds od sink x = if lbA ds x - pt x ≤ lbA ds sink - pt sink then lbA ds x else pt x + (lbA ds sink - pt sink) := by
  unfold newPt minI
  rw [if_pos hx]
  split <;> omega
theorem newPt_out {x : Nat} (hx : x ∉ od) : newPt pt ds od sink x = pt x + (lbA ds sink - pt sink) := by
  unfold newPt minI
  rw [if_neg hx]
  split <;> omega
theorem newPt_le (x : Nat) : newPt pt ds od sink x ≤ pt x + (lbA ds sink - pt sink) := by
  unfold newPt minI
  split <;> split <;> omega
theorem SI.pot (h : SI n sink bl W l pt sn vi ds qd q od tm k q.length NoEx) (hs : sink ∈ od) (hC : Cst n l) (hP : Pot n sink bl l pt) : Pot n sink bl l (newPt pt ds od sink) := by
  have hls := h.lo sink hs
  have hhs := h.hi sink hs
  have hol := h.odlen
  have hsk : newPt pt ds od sink sink = lbA ds sink := by rw [newPt_in hs]; split <;> omega
  have hlo : ∀ x, 0 ≤ newPt pt ds od sink x := by
    intro x
    have h1 := hP.lo x
    by_cases hx : x ∈ od
    · have := h.lo x hx
      rw [newPt_in hx]; split <;> omega
    · rw [newPt_out hx]; omega
  refine ⟨?_, hlo, fun x => ?_, by rw [hsk]; omega, ?_⟩
  · have h0 := h.d0
    have h1 := hP.src
    rw [newPt_in h.src, h0, h1]
    split <;> omega
  · rw [hsk]
    have := newPt_le (pt := pt) (ds := ds) (od := od) (sink := sink) x
    have := hP.hi x
    omega
  · intro a x y ha ht hy hr hx hya
    have hpa := hP.arc a x y ha ht hy hr hx hya
    have hle := newPt_le (pt := pt) (ds := ds) (od := od) (sink := sink) y
    by_cases hxo : x ∈ od
    · have hlx := h.lo x hxo
      by_cases hxs : x = sink
      · subst hxs
        rw [hsk]; omega
      · by_cases hy0 : y = 2 * n
        · subst hy0
          have h0 := h.d0
          have h1 := hP.src
          have e : newPt pt ds od sink (2 * n) = 0 := by rw [newPt_in h.src, h0, h1]; split <;> omega
          have hc := hC.src a ha hy
          have := hlo x
          rw [e]; omega
        · obtain ⟨g1, g2⟩ := h.shut hxo hxs ha ht hy hr hy0 hya
          have e := newPt_in (pt := pt) (ds := ds) (sink := sink) g1
          rw [newPt_in (pt := pt) (ds := ds) (sink := sink) hxo]
          split
          · rw [e]; split <;> omega
          · omega
    · rw [newPt_out hxo]; omega
theorem BW.room_after {vi : List Int} {x s : Nat} {ns ar : List Nat} (h : BW l vi x s ns ar) {a : Nat} (hr : roomAt (pushAll l ar) a ≠ 0) : roomAt l a ≠ 0 ∨ ∃ b ∈ ar, a = twin b := by
  by_cases ha : a ∈ ar
  · obtain ⟨i, hi⟩ := List.mem_iff_getElem?.1 ha
    obtain ⟨_, _, _, _, _, _, _, _, b2⟩ := h.arc i a hi
    exact .inl b2
  · by_cases hb : ∃ b ∈ ar, a = twin b
    · exact .inr hb
    · left
      rw [pushAll_ne l (fun b hb' => ⟨fun e => ha (by rw [e]; exact hb'), fun e => hb ⟨b, hb', e⟩⟩)] at hr
      exact hr
theorem SI.potAll {ns ar : List Nat} (h : SI n sink bl W l pt sn vi ds qd q od tm k q.length NoEx) (hs : sink ∈ od) (hC : Cst n l) (hP : Pot n sink bl l pt) (hw : Wy n sink l pt vi ds od ns ar) : Pot n sink bl (pushAll l ar) (newPt pt ds od sink) := by
  have hp := h.pot hs hC hP
  refine ⟨hp.src, hp.lo, hp.hi, hp.top, fun a x y ha ht hy hr hx hya => ?_⟩
  rw [pushAll_len] at ha
  rw [toAt_pushAll] at ht hy
  rw [costAt_pushAll]
  rcases hw.bw.room_after hr with h1 | ⟨b, hb, rfl⟩
  · exact hp.arc a x y ha ht hy h1 hx hya
  · obtain ⟨u, z, b1, b2, b3, b4, b5⟩ := hw.tight h hb
    have hbl := hw.bw.mem hb
    rw [twin_twin, b1] at ht
    rw [b2] at hy
    have hxz : x = z := by omega
    have hyu : y = u := by omega
    subst hxz hyu
    have k1 := hw.nsod x b3
    have k2 := hw.nsod y b4
    rw [newPt_in k1.1, newPt_in k2.1, if_pos k1.2, if_pos k2.2, hC.tw b hbl]
    omega
/-- No room leaves the nodes that were reached. -/
theorem SI.refuse (h : SI n sink bl W l pt sn vi ds qd q od tm k q.length NoEx) (hs : sink ∉ od) (hnw : ∀ a, a < l.length → ∃ x y : Nat, toAt l (twin a) = (x : Int) ∧ toAt l a = (y : Int)) : (!outOf od ((2 * n : Nat) : Int)) = true ∧ (!outOf od (sink : Int)) = false ∧ res (fun z => !outOf od z) (Xb n sink bl) l = 0 := by
  refine ⟨?_, ?_, sumTo_zero (fun a ha => ?_)⟩
  · rw [outOf_false.2 ⟨2 * n, h.src, rfl⟩]; rfl
  · cases hh : outOf od (sink : Int) with
    | true => rfl
    | false =>
      obtain ⟨v, hv, e⟩ := outOf_false.1 hh
      have : v = sink := by omega
      subst this
      exact absurd hv hs
  · by_cases hr0 : roomAt l a = 0
    · rw [hr0, Int.mul_zero]
    · have : leave (fun z => !outOf od z) (Xb n sink bl) l a = 0 := by
        unfold leave ind
        rw [if_neg]
        intro hc
        obtain ⟨x, y, hx, hy⟩ := hnw a ha
        rw [hx, hy] at hc
        rw [Bool.and_eq_true, Bool.and_eq_true] at hc
        obtain ⟨⟨c1, c2⟩, c3⟩ := hc
        have c1' : outOf od (x : Int) = false := by simpa using c1
        obtain ⟨v, hv, ev⟩ := outOf_false.1 c1'
        have hvx : v = x := by omega
        subst hvx
        have c3' : Xb n sink bl (v : Int) (y : Int) = false := by simpa using c3
        have hal := Xb_ends c3'
        by_cases hy0 : y = 2 * n
        · subst hy0
          have : outOf od ((2 * n : Nat) : Int) = false := outOf_false.2 ⟨2 * n, h.src, rfl⟩
          have c2' : (!(!outOf od ((2 * n : Nat) : Int))) = true := c2
          rw [this] at c2'
          simp at c2'
        · have hyo := (h.shut hv (fun e => hs (e ▸ hv)) ha hx hy hr0 hy0 hal.2).1
          have : outOf od (y : Int) = false := outOf_false.2 ⟨y, hyo, rfl⟩
          have c2' : (!(!outOf od (y : Int))) = true := c2
          rw [this] at c2'
          simp at c2'
      rw [this, Int.zero_mul]
end
/-- What c ways have done to the arcs, and what is touched. -/
structure RunX (n sink : Nat) (bl : Option (List Bool)) (l0 l : List Arc) (ts : List Int) (c : Nat) : Prop where
  len : l.length = l0.length
  tos : ∀ a, toAt l a = toAt l0 a
  cost : ∀ a, costAt l a = costAt l0 a
  rm : Rm l
  sum : ∀ a, roomAt l a + roomAt l (twin a) = roomAt l0 a + roomAt l0 (twin a)
  res : ∀ S : Int → Bool, S ((2 * n : Nat) : Int) = true → S (sink : Int) = false → res S (Xb n sink bl) l = res S (Xb n sink bl) l0 - c
  bal : ∀ K x : Nat, l0.length = 2 * K → balF l K x = balF l0 K x + c * (ind (sink = x) - ind (2 * n = x))
  cov : ∀ a : Nat, roomAt l a ≠ roomAt l0 a → (a : Int) ∈ ts
  tin : ∀ t ∈ ts, 0 ≤ t ∧ t < l0.length
  alw : ∀ a : Nat, roomAt l a ≠ roomAt l0 a → ∃ x y : Nat, toAt l0 a = (x : Int) ∧ toAt l0 (twin a) = (y : Int) ∧ allowB n sink bl x = true ∧ allowB n sink bl y = true
theorem RunX.zero {n sink : Nat} {bl : Option (List Bool)} {l : List Arc} (h : Rm l) : RunX n sink bl l l [] 0 :=
  ⟨rfl, fun _ => rfl, fun _ => rfl, h, fun _ => rfl, fun _ _ _ => by omega, fun _ _ _ => by simp, fun a h => absurd rfl h, fun t h => (by cases h), fun a h => absurd rfl h⟩
theorem RunX.way {n sink : Nat} {bl : Option (List Bool)} {l0 l : List Arc} {ts : List Int} {c : Nat} (h : RunX n sink bl l0 l ts c) (hev : l0.length % 2 = 0) {vi : List Int} {ns ar : List Nat} (hw : BW l vi sink (2 * n) ns ar) (hal : ∀ a ∈ ar, ∃ x y : Nat, toAt l a = (x : Int) ∧ toAt l (twin a) = (y : Int) ∧ allowB n sink bl x = true ∧ allowB n sink bl y = true) :
    RunX n sink bl l0 (pushAll l ar) (ts ++ ar.flatMap fun a : Nat => [(a : Int), (twin a : Int)]) (c + 1) := by
  have hev' : l.length % 2 = 0 := by rw [h.len]; exact hev
  have htw : ∀ a, a < l.length → twin a < l.length := fun a ha => by unfold twin; split <;> omega
  have hm : ∀ a ∈ ar, a < l.length ∧ twin a < l.length := fun a ha => ⟨hw.mem ha, htw a (hw.mem ha)⟩
  have hX : ∀ a ∈ ar, Xb n sink bl (toAt l (twin a)) (toAt l a) = false ∧ Xb n sink bl (toAt l a) (toAt l (twin a)) = false := fun a ha => by
    obtain ⟨x, y, e1, e2, e3, e4⟩ := hal a ha
    rw [e1, e2]
    exact ⟨Xb_false e4 e3, Xb_false e3 e4⟩
  have hne : ∀ a, (¬ ∃ b ∈ ar, a = b ∨ a = twin b) → roomAt (pushAll l ar) a = roomAt l a := fun a hin => pushAll_ne l (fun b hb => ⟨fun e => hin ⟨b, hb, .inl e⟩, fun e => hin ⟨b, hb, .inr e⟩⟩)
  refine ⟨by rw [pushAll_len]; exact h.len, fun a => by rw [toAt_pushAll]; exact h.tos a, fun a => by rw [costAt_pushAll]; exact h.cost a, ?_, fun a => by rw [pushAll_sum ar l hm]; exact h.sum a, ?_, ?_, ?_, ?_, ?_⟩
  · have := hw.rm h.rm hev' ar.length (Nat.le_refl _)
    rw [List.take_length] at this
    exact this
  · intro S hs ht
    rw [res_pushAll S (Xb n sink bl) ar l hm, hw.cut S (Xb n sink bl) hs ht hX, h.res S hs ht]
    omega
  · intro K x hK
    rw [balF_pushAll x ar l (by rw [h.len]; exact hK) (fun a ha => (hm a ha).1), hw.balance x, h.bal K x hK]
    have : ((c + 1 : Nat) : Int) = (c : Int) + 1 := by omega
    rw [this, Int.add_mul]
    omega
  · intro a ha
    by_cases hin : ∃ b ∈ ar, a = b ∨ a = twin b
    · obtain ⟨b, hb, e⟩ := hin
      refine List.mem_append_right _ (List.mem_flatMap.2 ⟨b, hb, ?_⟩)
      rcases e with rfl | rfl <;> simp
    · exact List.mem_append_left _ (h.cov a (fun e => ha (by rw [hne a hin]; exact e)))
  · intro t ht
    rcases List.mem_append.1 ht with ht | ht
    · exact h.tin t ht
    · obtain ⟨b, hb, e⟩ := List.mem_flatMap.1 ht
      have := hm b hb
      have hl := h.len
      simp at e
      rcases e with rfl | rfl <;> omega
  · intro a ha
    by_cases hin : ∃ b ∈ ar, a = b ∨ a = twin b
    · obtain ⟨b, hb, e⟩ := hin
      obtain ⟨x, y, e1, e2, e3, e4⟩ := hal b hb
      rw [h.tos] at e1 e2
      rcases e with rfl | rfl
      · exact ⟨x, y, e1, e2, e3, e4⟩
      · exact ⟨y, x, e2, by rw [twin_twin]; exact e1, e4, e3⟩
    · exact h.alw a (fun e => ha (by rw [hne a hin]; exact e))
end Go.Proofs.Qxb6605292a
