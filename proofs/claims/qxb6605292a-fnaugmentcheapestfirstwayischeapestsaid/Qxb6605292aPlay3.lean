/-
  The finder in play for the law on disjoint paths: opening by the set, searching until it refuses; and the count.
-/
import Derived.Test.Qxb6605292aGame2
import Derived.Test.Qxb6605292aPlay2
import Derived.Test.Qxb6605292aMaxW
namespace Go.Proofs.Qxb6605292a
open Go.RowKit

section
variable {w wr : World} {T : Nat → Nat} {lk : Bool} {rows : List (List Int)}
theorem Play.openG {s0 : FV} {n : Nat} {O S : List Bool} {reach : Nat → List Int} {v : Nat} (h : Play w T lk rows (fun s => Pl s0 s 0 ∧ Opd n O S reach v s.arcs ∧ s.touched = []) wr) (hn : s0.n = n) (hv : v < n) (ho : isOut O v = false) (hS : S.getD v false = true) (hs : s0.source[v]? = some ((srcI O reach n v : Nat) : Int)) :
    Calls Try.prog 20 #[.pointer (some ⟨s0.F, 0, none⟩), .int .i64 v] wr fun e w' => OpenedR w T lk rows (fun s => Pl s0 s 0 ∧ Opd n O S reach (v + 1) s.arcs ∧ s.touched = []) e w' := by
  obtain ⟨T', s, hg, st, hp, hz, ht⟩ := h
  have hi := srcI_to hz hv ho
  have c := openSource_any hg.fin v (srcI O reach n v) (by rw [hp.n, hn]; exact hv) (by rw [hp.source]; exact hs) hi.1
  rw [hp.F] at c
  refine c.mono ?_
  rintro e w' ⟨rfl, hf, st2⟩
  exact ⟨rfl, Play.step hg st hf st2 rfl rfl rfl ⟨hp.open, hz.open hv ho hS, ht⟩⟩
/-- No room is left into some set with the sink. -/
def Ref (n sink : Nat) (l : List Arc) : Prop := ∃ q : List Nat, outOf q ((2 * n : Nat) : Int) = true ∧ outOf q (sink : Int) = false ∧ res (outOf q) (Xs n sink) l = 0
def AugG (w : World) (T : Nat → Nat) (lk : Bool) (rows : List (List Int)) (s0 : FV) (k n sink : Nat) (l0 l : List Arc) (ts : List Int) (c : Nat) (e : Ending) (w' : World) : Prop :=
  ∃ ok l' ts', e = .returned (.bool ok) ∧ Play w T lk rows (fun s => Pl s0 s (k + 1) ∧ s.arcs = l' ∧ s.touched = ts') w' ∧ ((ok = true ∧ Run n sink l0 l' ts' (c + 1)) ∨ (ok = false ∧ l' = l ∧ ts' = ts ∧ Ref n sink l))
theorem Play.augG {s0 : FV} {k n sink c : Nat} {l0 l : List Arc} {ts : List Int} (h : Play w T lk rows (fun s => Pl s0 s k ∧ s.arcs = l ∧ s.touched = ts) wr) (hr : Run n sink l0 l ts c) (hn : s0.n = n) (hn2 : n ≤ 256) (hs : sink < 2 * n) (hev : l0.length % 2 = 0) (hso : SrcOnly n l0 s0.source) (hk : k ≤ 500) :
    Calls Try.prog 21 #[.pointer (some ⟨s0.F, 0, none⟩), .int .i64 sink] wr fun e w' => AugG w T lk rows s0 k n sink l0 l ts c e w' := by
  obtain ⟨T', s, hg, st, hp, rfl, rfl⟩ := h
  have h1 := hp.w1
  have h2 := hp.tl
  have hnn : s.n = n := by rw [hp.n, hn]
  have c' := augment_all hg.fin sink (by rw [hnn]; exact hn2) (by rw [hnn]; exact hs) hp.nw hr.rm hp.w0 (by omega) hp.sn (by omega)
  rw [hp.F] at c'
  refine zzaugment_any (c'.mono ?_)
  rintro e w' ⟨ok, T2, s', rfl, hf, st2, hq⟩
  obtain ⟨q1, q2⟩ := hp.aug (by rw [hnn]; exact hn2) hr.rm hq
  refine ⟨⟨ok, rfl⟩, ok, s'.arcs, s'.touched, rfl, Play.step hg st hf st2 (by rw [q1.G, hp.G]) (by rw [q1.nb, hp.nb]) (by rw [q1.n, hp.n]) ⟨q1, rfl, rfl⟩, ?_⟩
  obtain ⟨sn, vi, vq, q, par, _, hq⟩ := hq
  rw [hnn] at hq
  rcases hq with ⟨rfl, rfl, hb, hd⟩ | ⟨rfl, hfo, vt, ns, ar, rfl, hw⟩
  · refine .inr ⟨rfl, rfl, rfl, q, ?_⟩
    have hnw : Nw n s.arcs s.nodes s.source := by rw [← hnn]; exact hp.nw
    refine refused hb hd hnw (fun a ha ht => ?_) hr.rm
    rw [hr.tos] at ht
    obtain ⟨u, e1, e2⟩ := hso a (by rw [← hr.len]; exact ha) ht
    exact ⟨u, by rw [hp.source]; exact e1, by rw [hr.tos]; exact e2⟩
  · exact .inl ⟨rfl, hr.way hev hfo hw⟩
end
theorem res_nonneg {S : Int → Bool} {X : Int → Int → Bool} {l : List Arc} (h : Rm l) : 0 ≤ res S X l := by
  refine sumTo_nonneg (fun a _ => ?_)
  have h1 := h.lo a
  rcases ind_01 ((S (toAt l (twin a)) && !S (toAt l a) && !X (toAt l (twin a)) (toAt l a)) = true) with e | e
  · have : leave S X l a = 0 := e
    rw [this]; omega
  · have : leave S X l a = 1 := e
    rw [this]; omega
/-- A refused search refuses again. -/
theorem Run.again {n sink : Nat} {l0 l l' : List Arc} {ts ts' : List Int} {c : Nat} (h : Run n sink l0 l ts c) (hr : Ref n sink l) (h' : Run n sink l0 l' ts' (c + 1)) : False := by
  obtain ⟨q, h1, h2, h3⟩ := hr
  have a := h.res (outOf q) h1 h2
  have b := h'.res (outOf q) h1 h2
  have d := res_nonneg (S := outOf q) (X := Xs n sink) h'.rm
  omega
theorem Run.small {n sink : Nat} {O S : List Bool} {reach : Nat → List Int} {l0 l : List Arc} {ts : List Int} {c : Nat} (h : Run n sink l0 l ts c) (ho : Opd n O S reach n l0) (hl : ∀ p ∈ linkPairs O reach n, p.a < 2 * n) (hs : sink < 2 * n) : c ≤ n := by
  have a := h.res (fun z => decide (z = ((2 * n : Nat) : Int))) (decide_eq_true rfl) (decide_eq_false (by omega))
  have b := res_small (sink := sink) ho hl
  have d := res_nonneg (S := fun z => decide (z = ((2 * n : Nat) : Int))) (X := Xs n sink) h.rm
  omega
/-- Both counts are the same. -/
theorem counts {n sink : Nat} {O S : List Bool} {reach : Nat → List Int} {l0 l m : List Arc} {ts : List Int} {c c' : Nat} (hr : Run n sink l0 l ts c) (hf : Ref n sink l) (ho : Opd n O S reach n l0) (hS : ∀ v, v < n → S.getD v false = true → isOut O v = false) (hl : ∀ p ∈ linkPairs O reach n, p.a < 2 * n) (hsk : sink < 2 * n)
    (hX : ∀ a, a < (netOf (2 * n + 1) (linkPairs O reach n ++ msrc S n sink false n)).2.length → Xs n sink (toAt (netOf (2 * n + 1) (linkPairs O reach n ++ msrc S n sink false n)).2 (twin a)) (toAt (netOf (2 * n + 1) (linkPairs O reach n ++ msrc S n sink false n)).2 a) = false)
    (htos : ∀ a, a < m.length → ∃ x y : Nat, toAt m (twin a) = (x : Int) ∧ toAt m a = (y : Int))
    (hm : FRun (2 * n) sink (netOf (2 * n + 1) (linkPairs O reach n ++ msrc S n sink false n)).2 m c') (hsh : (∃ od, Shut (2 * n) sink m od) ∨ c' = 2 * n + 1 + 1) : c = c' := by
  obtain ⟨q, q1, q2, q3⟩ := hf
  have a1 := hr.res (outOf q) q1 q2
  have b1 := hm.res (outOf q) (Xs n sink) q1 q2 hX
  have d1 := res_nonneg (S := outOf q) (X := Xs n sink) hm.rm
  have e1 := res_same (sink := sink) (outOf q) ho hS
  rcases hsh with ⟨od, s1, s2, s3⟩ | hsh
  · have p1 : (!outOf od ((2 * n : Nat) : Int)) = true := by
      rw [outOf_false.2 ⟨2 * n, s1, rfl⟩]; rfl
    have p2 : (!outOf od (sink : Int)) = false := by
      cases h : outOf od (sink : Int) with
      | true => rfl
      | false =>
        obtain ⟨v, hv, e⟩ := outOf_false.1 h
        have : v = sink := by omega
        subst this
        exact absurd hv s2
    have z : res (fun z => !outOf od z) (Xs n sink) m = 0 := by
      refine sumTo_zero (fun a ha => ?_)
      by_cases hr0 : roomAt m a = 0
      · rw [hr0, Int.mul_zero]
      · have hpos : 0 < roomAt m a := by have := hm.rm.lo a; omega
        obtain ⟨x, y, hx, hy⟩ := htos a ha
        have : leave (fun z => !outOf od z) (Xs n sink) m a = 0 := by
          unfold leave ind
          rw [if_neg]
          intro hc
          rw [Bool.and_eq_true, Bool.and_eq_true] at hc
          obtain ⟨⟨c1, c2⟩, _⟩ := hc
          have c1' : outOf od (toAt m (twin a)) = false := by simpa using c1
          obtain ⟨v, hv, ev⟩ := outOf_false.1 c1'
          rw [hx] at ev
          have hvx : v = x := by omega
          subst hvx
          have hyo := s3 a v y ha hx hy hv hpos
          have : outOf od (toAt m a) = false := outOf_false.2 ⟨y, hyo, by rw [hy]⟩
          have c2' : (!(!outOf od (toAt m a))) = true := c2
          rw [this] at c2'
          simp at c2'
        rw [this, Int.zero_mul]
    have b2 := hm.res (fun z => !outOf od z) (Xs n sink) p1 p2 hX
    have a2 := hr.res (fun z => !outOf od z) p1 p2
    have d2 := res_nonneg (S := fun z => !outOf od z) (X := Xs n sink) hr.rm
    have e2 := res_same (sink := sink) (fun z => !outOf od z) ho hS
    omega
  · exfalso
    have b3 := hm.res (fun z => decide (z = ((2 * n : Nat) : Int))) (Xs n sink) (decide_eq_true rfl) (decide_eq_false (by omega)) hX
    have d3 := res_nonneg (S := fun z => decide (z = ((2 * n : Nat) : Int))) (X := Xs n sink) hm.rm
    have e3 := res_same (sink := sink) (fun z => decide (z = ((2 * n : Nat) : Int))) ho hS
    have f3 := res_small (sink := sink) ho hl
    omega
end Go.Proofs.Qxb6605292a
