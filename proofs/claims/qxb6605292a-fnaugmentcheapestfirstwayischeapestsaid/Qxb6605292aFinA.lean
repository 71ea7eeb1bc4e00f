/-
  finder (f41): how it begins.
-/
import Derived.Test.Qxb6605292aReach
import Derived.Test.Qxb6605292aOps
import Derived.Test.Qxb6605292aMakes
import Derived.Test.Qxb6605292aArcW
import Derived.Deep.DeepCutAuto
import Derived.Deep.Light
namespace Go.Proofs.Qxb6605292a
open Go.RowKit

def finT (t : Nat) : Prop := t ≠ 0
def grp1 (n : Nat) (nb : Value) (R : Nat) : List Value := [.int .i64 n, .int .i64 0, nb, .slice none 0 0, .int .i64 0, ptr0 R]
def rec1 (m1 m2 : Value) : List Value := [.int .i64 (-1), .int .i64 (-1), m1, m2, .pointer none]
def A14 (G n : Nat) (nb : Value) : Lay := fun t => if t = 14 then some (G, 83, grp0 n nb) else none
def A15 (G n : Nat) (nb : Value) (R : Nat) (m1 m2 : Value) : Lay := fun t => if t = 14 then some (G, 83, grp1 n nb R) else if t = 15 then some (R, 87, rec1 m1 m2) else none
def R0 : Gro := fun _ => none

/-- Where the group stands ahead of the call: new, or with a finder. -/
def Start (w : World) (T : Nat → Nat) (G n : Nat) (lk : Bool) (rows : List (List Int)) : Option FV → Prop
  | none => ∃ nb, Own w T (A14 G n nb) R0 ∧ NbAt G w nb n lk rows ∧ ∀ b, b < G → T b = 0
  | some s => Gs w T s lk rows ∧ s.G = G ∧ s.n = n
/-- Behind finds. -/
def Mid (w : World) (T : Nat → Nat) (G n : Nat) (lk : Bool) (rows : List (List Int)) (R : Nat) (fp : Option Addr) : Option FV → Prop
  | none => fp = none ∧ ∃ nb m1 m2, Own w T (A15 G n nb R m1 m2) R0 ∧ NbAt G w nb n lk rows ∧ ∀ b, b < G → T b = 0
  | some s => fp = some ⟨s.F, 0, none⟩ ∧ Gs w T s lk rows ∧ s.G = G ∧ s.n = n ∧ s.bR = R
def FindsR (w : World) (T : Nat → Nat) (G n : Nat) (lk : Bool) (rows : List (List Int)) (pre : Option FV) (e : Ending) (w' : World) : Prop :=
  ∃ R fp T', e = .returned (ptr0 R) ∧ w'.cell? ⟨R, 4, none⟩ = some (.pointer fp) ∧ w'.cell? ⟨G, 5, none⟩ = some (ptr0 R) ∧ Mid w' T' G n lk rows R fp pre ∧ Step finT w T w' T'

theorem finds_any {w : World} {T : Nat → Nat} {G n : Nat} {lk : Bool} {rows : List (List Int)} {pre : Option FV} (h : Start w T G n lk rows pre) :
    Calls Try.prog 57 #[ptr0 G] w fun e w' => FindsR w T G n lk rows pre e w' := by
  cases pre with
  | some s =>
    obtain ⟨hg, rfl, rfl⟩ := h
    have e14 : s.A 14 = some (s.G, 83, s.gcells) := by simp [FV.A]
    have e15 : s.A 15 = some (s.bR, 87, s.rcells) := by simp [FV.A]
    have c5 : w.cell? ⟨s.G, 5, none⟩ = some (ptr0 s.bR) := hg.fin.own.at e14 rfl
    refine (finds_old s.G s.bR w c5).mono ?_
    rintro e w' ⟨rfl, rfl⟩
    exact ⟨s.bR, some ⟨s.F, 0, none⟩, T, rfl, hg.fin.own.at e15 rfl, c5, ⟨rfl, hg, rfl, rfl, rfl⟩, Step.refl _ _ _⟩
  | none =>
    obtain ⟨nb, ho, hnb, hlow⟩ := h
    have e14 : A14 G n nb 14 = some (G, 83, grp0 n nb) := rfl
    have r14 := (ho.arr _ _ _ _ e14).2
    have t14 := (ho.arr _ _ _ _ e14).1
    refine (finds_new G n nb w r14).mono ?_
    rintro e w' ⟨rfl, rfl⟩
    have hb1 : Below w.heap.size w ((w.alloc (.map #[] 0)).alloc (.map #[] 0)) := below_all (below_laid _ _) (below_laid _ _)
    have a1 := ho.later hb1
    have hsz : ((w.alloc (.map #[] 0)).alloc (.map #[] 0)).heap.size = w.heap.size + 2 := by simp
    generalize hx : (w.alloc (.map #[] 0)).alloc (.map #[] 0) = x at *
    have hb2 : Below x.heap.size x (x.alloc (.cells #[.int .i64 (-1), .int .i64 (-1), .map (some w.heap.size), .map (some (w.heap.size + 1)), .pointer none] 87)) := below_laid _ _
    have hrw : Rw (x.alloc (.cells #[.int .i64 (-1), .int .i64 (-1), .map (some w.heap.size), .map (some (w.heap.size + 1)), .pointer none] 87)) (w.heap.size + 2) 87 (rec1 (.map (some w.heap.size)) (.map (some (w.heap.size + 1)))) := by
      rw [← hsz]; exact Rw.new x 87 _
    have a2 := a1.addArr (t := 15) hb2 hrw (by omega) rfl rfl (by omega)
    have s2 : Step finT w T (x.alloc (.cells #[.int .i64 (-1), .int .i64 (-1), .map (some w.heap.size), .map (some (w.heap.size + 1)), .pointer none] 87)) (retag T (w.heap.size + 2) 15) := Step.add (below_all hb1 hb2) (by omega)
    generalize x.alloc (.cells #[.int .i64 (-1), .int .i64 (-1), .map (some w.heap.size), .map (some (w.heap.size + 1)), .pointer none] 87) = y at *
    have e14' : ((A14 G n nb).upd 15 (w.heap.size + 2, 87, rec1 (.map (some w.heap.size)) (.map (some (w.heap.size + 1))))) 14 = some (G, 83, grp0 n nb) := by rw [Lay.upd_ne _ _ (by omega)]; rfl
    have a3 := a2.set e14' rfl 5 (ptr0 (w.heap.size + 2))
    have s3 := s2.set (b := G) (o := 5) (by rw [(a2.arr _ _ _ _ e14').1]; exact (by decide : (14 : Nat) ≠ 0)) (ptr0 (w.heap.size + 2))
    have a4 : Own (y.setCell ⟨G, 5, none⟩ (ptr0 (w.heap.size + 2))) (retag T (w.heap.size + 2) 15) (A15 G n nb (w.heap.size + 2) (.map (some w.heap.size)) (.map (some (w.heap.size + 1)))) R0 := by
      refine a3.congr (fun t => ?_) (fun _ => rfl)
      by_cases e : t = 14
      · subst e; rw [Lay.upd_same]; rfl
      · rw [Lay.upd_ne _ _ e]
        by_cases e' : t = 15
        · subst e'; rw [Lay.upd_same]; rfl
        · rw [Lay.upd_ne _ _ e']; simp [A14, A15, e, e']
    refine ⟨w.heap.size + 2, none, retag T (w.heap.size + 2) 15, rfl, a4.at (t := 15) (e := 87) (l := rec1 (.map (some w.heap.size)) (.map (some (w.heap.size + 1)))) rfl rfl, a4.at (t := 14) (e := 83) (l := grp1 n nb (w.heap.size + 2)) rfl rfl, ⟨rfl, nb, _, _, a4, ?_, ?_⟩, s3⟩
    · exact hnb.later (s3.below (Nat.le_of_lt r14.lt) (fun i hi hh => hh (hlow i hi)))
    · intro b hb
      rw [s3.tags b (Nat.lt_trans hb r14.lt)]
      exact hlow b hb

/-- How the finder's working arrays stand when it is laid out: as they stood, or new. -/
def Init : Option FV → FV → Prop
  | some s0, s => s = s0
  | none, s => s.walk = 0 ∧ s.seen = List.replicate s.V 0 ∧ s.queued = List.replicate s.V 0 ∧ s.dist = List.replicate s.V 0 ∧ s.via = List.replicate s.V 0 ∧ s.queue = [] ∧ s.hasE = false ∧ s.touched = [] ∧ s.arcs = []
/-- Behind 'if f == nil'. -/
def FX (w : World) (T : Nat → Nat) (G n : Nat) (lk : Bool) (rows : List (List Int)) (pre : Option FV) (v : Value) (wc : World) : Prop :=
  ∃ T' s, v = ptr0 s.F ∧ Gs wc T' s lk rows ∧ s.G = G ∧ s.n = n ∧ Step finT w T wc T' ∧ Init pre s

/-! ### Region 4: nine rows are made in whatever order -/
def mkSz (n : Nat) : Nat → Nat
  | 6 => 2 * n + 1
  | 16 => 2 * n + 1
  | 20 => 2 * n + 1
  | 24 => 2 * n + 1
  | 28 => 2 * n + 1
  | _ => n
def mkTag : Nat → Nat
  | 2 => 2
  | 6 => 3
  | 8 => 4
  | 10 => 5
  | 12 => 6
  | 16 => 7
  | 20 => 8
  | 24 => 9
  | _ => 10
def mkEl : Nat → TypeId
  | 2 => 4
  | 6 => 45
  | 8 => 21
  | 10 => 4
  | 12 => 21
  | 16 => 70
  | 20 => 70
  | 24 => 21
  | _ => 21
def mkZ : Nat → Value
  | 2 => .bool false
  | 6 => .slice none 0 0
  | 8 => .int .i32 0
  | 10 => .bool false
  | 12 => .int .i32 0
  | 16 => .int .u32 0
  | 20 => .int .u32 0
  | 24 => .int .i32 0
  | _ => .int .i32 0
def mkIdx : List Nat := [2, 6, 8, 10, 12, 16, 20, 24, 28]
def mkDs : List (Nat × Nat) := [(2, 29), (6, 33), (8, 35), (10, 37), (12, 39), (16, 43), (20, 47), (24, 51), (28, 55)]
/-- The rows that have been made. -/
def AD (A : Lay) (n : Nat) (B : Nat → Nat) (D : List Nat) : Lay := fun t => match mkIdx.find? (fun i => mkTag i == t && D.contains i) with
  | some i => some (B i, mkEl i, List.replicate (mkSz n i) (mkZ i))
  | none => A t
/-- What holds while they are being made. -/
def MkJ (w0 : World) (T0 : Nat → Nat) (A : Lay) (n : Nat) (a0 : Act) (D : List Nat) (a : Act) (w : World) : Prop :=
  ∃ B T, a = foldPut (fun i => if D.contains i then at0 (B i) (mkSz n i) else undef) mkDs a0 ∧ Own w T (AD A n B D) R0 ∧ Step finT w0 T0 w T

theorem mkTag_inj : ∀ i ∈ mkIdx, ∀ j ∈ mkIdx, mkTag i = mkTag j → i = j := by decide
theorem AD_cons {A : Lay} {n : Nat} {B : Nat → Nat} {D : List Nat} {i H : Nat} (hi : i ∈ mkIdx) (hD : i ∉ D) (t : Nat) :
    AD A n (fun j => if j = i then H else B j) (i :: D) t = ((AD A n B D).upd (mkTag i) (H, mkEl i, List.replicate (mkSz n i) (mkZ i))) t := by
  by_cases e : t = mkTag i
  · subst e
    rw [Lay.upd_same]
    unfold AD
    have hf : mkIdx.find? (fun j => mkTag j == mkTag i && (i :: D).contains j) = some i := by
      cases hx : mkIdx.find? (fun j => mkTag j == mkTag i && (i :: D).contains j) with
      | none =>
        have := List.find?_eq_none.1 hx i hi
        simp at this
      | some j =>
        have h1 := List.find?_some hx
        have h2 := List.mem_of_find?_eq_some hx
        simp only [Bool.and_eq_true, beq_iff_eq] at h1
        rw [mkTag_inj j h2 i hi h1.1]
    rw [hf]
    simp
  · rw [Lay.upd_ne _ _ e]
    unfold AD
    have hf : mkIdx.find? (fun j => mkTag j == t && (i :: D).contains j) = mkIdx.find? (fun j => mkTag j == t && D.contains j) := by
      congr 1
      funext j
      by_cases ej : j = i
      · subst ej
        have : (mkTag j == t) = false := by rw [beq_eq_false_iff_ne]; exact Ne.symm e
        simp [this]
      · simp [ej]
    rw [hf]
    cases hx : mkIdx.find? (fun j => mkTag j == t && D.contains j) with
    | none => rfl
    | some j =>
      have h1 := List.find?_some hx
      simp only [Bool.and_eq_true, beq_iff_eq] at h1
      have : j ≠ i := fun ej => by subst ej; exact e h1.1.symm
      simp [this]
theorem AD_none {A : Lay} {n : Nat} {B : Nat → Nat} {D : List Nat} {i : Nat} (hi : i ∈ mkIdx) (hD : i ∉ D) (hA : A (mkTag i) = none) : AD A n B D (mkTag i) = none := by
  unfold AD
  cases hx : mkIdx.find? (fun j => mkTag j == mkTag i && D.contains j) with
  | none => exact hA
  | some j =>
    have h1 := List.find?_some hx
    have h2 := List.mem_of_find?_eq_some hx
    simp only [Bool.and_eq_true, beq_iff_eq] at h1
    rw [mkTag_inj j h2 i hi h1.1] at h1
    exact absurd (by simpa using h1.2) hD

theorem MkJ.step {w0 : World} {T0 : Nat → Nat} {A : Lay} {n : Nat} {a0 : Act} {D : List Nat} {a : Act} {w : World} {i d : Nat} (h : MkJ w0 T0 A n a0 D a w) (hi : i ∈ mkIdx) (hD : i ∉ D) (hd : (i, d) ∈ mkDs) (hA : A (mkTag i) = none) :
    MkJ w0 T0 A n a0 (i :: D) (a.put (some d) (.slice (some ⟨w.heap.size, 0, none⟩) (mkSz n i) (mkSz n i))) (w.alloc (.cells (List.replicate (mkSz n i) (mkZ i)).toArray (mkEl i))) := by
  obtain ⟨B, T, rfl, ho, st⟩ := h
  have hb : Below w.heap.size w (w.alloc (.cells (List.replicate (mkSz n i) (mkZ i)).toArray (mkEl i))) := below_laid _ _
  refine ⟨fun j => if j = i then w.heap.size else B j, retag T w.heap.size (mkTag i), ?_, ?_, ?_⟩
  · rw [foldPut_put _ i d _ mkDs a0 (by decide) (by decide) hd]
    refine foldPut_congr _ _ _ _ (fun p _ => ?_)
    by_cases e : p.1 = i
    · rw [if_pos e, e]; simp [at0]
    · simp [e]
  · exact (ho.addArr hb (Rw.new w _ _) (Nat.le_refl _) (AD_none hi hD hA) rfl (by
      have : ∀ i ∈ mkIdx, mkTag i ≠ 0 := by decide
      exact this i hi)).congr (AD_cons hi hD) (fun _ => rfl)
  · refine st.trans ⟨(Kept.refl _ _).of_below hb, fun b hb' => ?_⟩
    unfold retag
    rw [if_neg (by omega)]

def mkTy : Nat → TypeId
  | 2 => 36
  | 6 => 68
  | 8 => 45
  | 10 => 36
  | 12 => 45
  | 16 => 71
  | 20 => 71
  | 24 => 45
  | _ => 45
def mkSrc : Nat → Nat
  | 2 => 28
  | 6 => 32
  | 8 => 34
  | 10 => 36
  | 12 => 38
  | 16 => 42
  | 20 => 46
  | 24 => 50
  | _ => 54
def mkDst : Nat → Nat
  | 2 => 29
  | 6 => 33
  | 8 => 35
  | 10 => 37
  | 12 => 39
  | 16 => 43
  | 20 => 47
  | 24 => 51
  | _ => 55
theorem Try.info45 : (Try.prog.info? 45).map (fun i => (i.zero, i.size, i.bytes)) = some (some (.slice none 0 0), 1, 24) := by kernel_rfl
theorem Try.info70 : (Try.prog.info? 70).map (fun i => (i.zero, i.size, i.bytes)) = some (some (.int .u32 0), 1, 4) := by kernel_rfl
theorem mk_type : ∀ i ∈ mkIdx, ∃ by_, Try.prog.underlying (mkTy i) = some (.slice (mkEl i)) ∧ (Try.prog.info? (mkEl i)).map (fun i => (i.zero, i.size, i.bytes)) = some (some (mkZ i), 1, by_) ∧ by_ ≤ 24 ∧ (mkZ i).cells = #[mkZ i] := by
  intro i hi
  simp only [mkIdx, List.mem_cons, List.not_mem_nil, or_false] at hi
  rcases hi with rfl | rfl | rfl | rfl | rfl | rfl | rfl | rfl | rfl
  · exact ⟨1, Try.underlying36, Try.info4, by omega, rfl⟩
  · exact ⟨24, Try.underlying68, Try.info45, by omega, rfl⟩
  · exact ⟨4, Try.underlying45, Try.info21, by omega, rfl⟩
  · exact ⟨1, Try.underlying36, Try.info4, by omega, rfl⟩
  · exact ⟨4, Try.underlying45, Try.info21, by omega, rfl⟩
  · exact ⟨4, Try.underlying71, Try.info70, by omega, rfl⟩
  · exact ⟨4, Try.underlying71, Try.info70, by omega, rfl⟩
  · exact ⟨4, Try.underlying45, Try.info21, by omega, rfl⟩
  · exact ⟨4, Try.underlying45, Try.info21, by omega, rfl⟩
theorem mkSz_le (n i : Nat) : mkSz n i ≤ 2 * n + 1 := by unfold mkSz; split <;> omega

theorem wpAny_makes {ops : Array Oper} {Q : Exit → Act → World → Prop} {base : Array Bool} {a0 : Act} {w : World} {T : Nat → Nat} {A : Lay} {n : Nat} (hck : chkS .any ops base mkIdx = true) (hu : foldPut (fun _ => undef) mkDs a0 = a0)
    (hops : ∀ i ∈ mkIdx, ∃ o, ops[i]? = some o ∧ o.op = .makeSlice (mkTy i) (.tmp (mkSrc i)) (.tmp (mkSrc i)) ∧ o.guard = none ∧ o.dst = some (mkDst i))
    (hev : ∀ i ∈ mkIdx, a0.eval (.tmp (mkSrc i)) = .int .i64 (mkSz n i)) (ho : Own w T A R0) (hA : ∀ i ∈ mkIdx, A (mkTag i) = none) (hn : n ≤ 256)
    (hdone : ∀ B T' w', Own w' T' (AD A n B mkIdx) R0 → Step finT w T w' T' → wpAny Try.prog .any ops Q 3 (mkL base mkIdx) (foldPut (fun i => at0 (B i) (mkSz n i)) mkDs a0) w') :
    wpAny Try.prog .any ops Q (3 + 9) base a0 w := by
  have hds : ∀ i ∈ mkIdx, (i, mkDst i) ∈ mkDs := by decide
  have hsrc : ∀ i ∈ mkIdx, ∀ p ∈ mkDs, p.2 ≠ mkSrc i := by decide
  refine wpAny_sets (base := base) (idx := mkIdx) (f := 3) hck (MkJ w T A n a0) (fun D a w' hJ i hi hD => ?_) (fun D a w' hJ hsub hall => ?_) 9 [] a0 w ⟨fun _ => 0, T, ?_, ?_, Step.refl _ _ _⟩ (fun _ h => by simp at h) (by decide)
  · obtain ⟨o, h1, h2, h3, h4⟩ := hops i hi
    obtain ⟨by_, u1, u2, u3, u4⟩ := mk_type i hi
    obtain ⟨ti, i1, i2, i3, i4⟩ := info_parts u2
    have hsz := mkSz_le n i
    refine wpOp_mk h1 (mkTy i) (mkSrc i) (mkDst i) h2 h3 h4 (mkEl i) ti (mkZ i) by_ u1 i1 i2 i3 i4 u4 (mkSz n i) ?_ ?_ (by unfold maxLen; omega) (hJ.step hi hD (hds i hi) (hA i hi))
    · obtain ⟨B, T', rfl, _⟩ := hJ
      rw [foldPut_eval _ _ _ _ (hsrc i hi)]
      exact hev i hi
    · have : by_ * mkSz n i ≤ 24 * mkSz n i := Nat.mul_le_mul_right _ u3
      omega
  · obtain ⟨B, T', rfl, ho', st⟩ := hJ
    have e1 : mkL base D = mkL base mkIdx := mkL_eq (fun j _ => ⟨hsub j, hall j⟩)
    have hc : ∀ i ∈ mkIdx, D.contains i = true := fun i hi => by simpa using hall i hi
    have hA' : ∀ t, AD A n B mkIdx t = AD A n B D t := fun t => by
      unfold AD
      have : mkIdx.find? (fun i => mkTag i == t && mkIdx.contains i) = mkIdx.find? (fun i => mkTag i == t && D.contains i) := by
        rw [← List.head?_filter, ← List.head?_filter]
        congr 1
        refine List.filter_congr fun j hj => ?_
        rw [hc j hj]
        have : mkIdx.contains j = true := by simpa using hj
        rw [this]
      rw [this]
    have hf : foldPut (fun i => if D.contains i then at0 (B i) (mkSz n i) else undef) mkDs a0 = foldPut (fun i => at0 (B i) (mkSz n i)) mkDs a0 := foldPut_congr _ _ _ _ (fun p hp => by
      have : ∀ p ∈ mkDs, p.1 ∈ mkIdx := by decide
      rw [if_pos (hc _ (this p hp))])
    rw [hf, e1]
    exact hdone B T' w' (ho'.congr hA' (fun _ => rfl)) st
  · rw [show (fun i => if ([] : List Nat).contains i = true then at0 0 (mkSz n i) else undef) = (fun _ => undef) from by funext i; simp]
    exact hu.symm
  · refine ho.congr (fun t => ?_) (fun _ => rfl)
    have hx : mkIdx.find? (fun i => mkTag i == t && ([] : List Nat).contains i) = none := by
      rw [List.find?_eq_none]; intro x _; simp
    unfold AD
    rw [hx]

/-- The new finder. -/
def FV.fresh (G F bR n : Nat) (nb m1 m2 : Value) (B : Nat → Nat) : FV :=
  { G := G, F := F, bR := bR, bE := 0, hasE := false, nb := nb, mp1 := m1, mp2 := m2, n := n, bOut := B 2, bNodes := B 6, bSource := B 8, bSeen := B 16, bQueued := B 20, bDist := B 24, bVia := B 28,
    vArcs := .slice none 0 0, vTouched := .slice none 0 0, vBlocked := .slice none 0 0, c7 := at0 (B 10) n, c8 := at0 (B 12) n, c9 := .slice none 0 0, c10 := .slice none 0 0, vQueue := .slice none 0 0,
    vNodes := List.replicate (2 * n + 1) (.slice none 0 0), out := List.replicate n false, nodes := List.replicate (2 * n + 1) [], arcs := [], source := List.replicate n 0, touched := [], walk := 0,
    seen := List.replicate (2 * n + 1) 0, queued := List.replicate (2 * n + 1) 0, dist := List.replicate (2 * n + 1) 0, via := List.replicate (2 * n + 1) 0, queue := [] }
theorem FV.fresh_len (G F bR n : Nat) (nb m1 m2 : Value) (B : Nat → Nat) : (FV.fresh G F bR n nb m1 m2 B).Len := by
  constructor <;> simp [FV.fresh, FV.V]
theorem FV.fresh_R (G F bR n : Nat) (nb m1 m2 : Value) (B : Nat → Nat) {t : Nat} {v : Value} {e : TypeId} {z k : Nat} {xs : List Value} (h : (FV.fresh G F bR n nb m1 m2 B).R t = some (v, e, z, k, xs)) : v = .slice none 0 0 ∧ k = 0 ∧ xs = [] := by
  unfold FV.R at h
  split at h
  · cases h; exact ⟨rfl, rfl, rfl⟩
  · split at h
    · cases h; exact ⟨rfl, rfl, rfl⟩
    · split at h
      · cases h; exact ⟨rfl, rfl, rfl⟩
      · split at h
        · rename_i hh
          have hr : (FV.fresh G F bR n nb m1 m2 B).row (t - 100) = [] := by
            simp only [FV.row, FV.fresh]
            rw [List.getD_eq_getElem?_getD, List.getElem?_replicate]
            split <;> rfl
          rw [hr] at h
          have hv : (FV.fresh G F bR n nb m1 m2 B).vNodes.getD (t - 100) (.slice none 0 0) = .slice none 0 0 := by
            simp only [FV.fresh]
            rw [List.getD_eq_getElem?_getD, List.getElem?_replicate]
            split <;> rfl
          rw [hv] at h
          cases h
          exact ⟨rfl, rfl, rfl⟩
        · cases h
theorem Own.nilRows {w : World} {T : Nat → Nat} {A : Lay} {R : Gro} (h : Own w T A R0) (hR : ∀ t v e z n xs, R t = some (v, e, z, n, xs) → v = .slice none 0 0 ∧ n = 0 ∧ xs = []) : Own w T A R :=
  ⟨h.arr, fun t v e z n xs ht => by
    obtain ⟨rfl, rfl, rfl⟩ := hR _ _ _ _ _ _ ht
    exact ⟨World.ownsRow_nil _ _ _ _, fun g hg => by simp [Value.ownBlock] at hg⟩, h.new⟩


theorem AD_all {A : Lay} {n : Nat} {B : Nat → Nat} {i : Nat} (hi : i ∈ mkIdx) : AD A n B mkIdx (mkTag i) = some (B i, mkEl i, List.replicate (mkSz n i) (mkZ i)) := by
  unfold AD
  have hf : mkIdx.find? (fun j => mkTag j == mkTag i && mkIdx.contains j) = some i := by
    cases hx : mkIdx.find? (fun j => mkTag j == mkTag i && mkIdx.contains j) with
    | none =>
      have := List.find?_eq_none.1 hx i hi
      simp [hi] at this
    | some j =>
      have h1 := List.find?_some hx
      have h2 := List.mem_of_find?_eq_some hx
      simp only [Bool.and_eq_true, beq_iff_eq] at h1
      rw [mkTag_inj j h2 i hi h1.1]
  rw [hf]
theorem AD_other {A : Lay} {n : Nat} {B : Nat → Nat} {t : Nat} (h : ∀ i ∈ mkIdx, mkTag i ≠ t) : AD A n B mkIdx t = A t := by
  unfold AD
  have hf : mkIdx.find? (fun j => mkTag j == t && mkIdx.contains j) = none := by
    rw [List.find?_eq_none]
    intro j hj
    have := h j hj
    simp [this]
  rw [hf]

/-- The new finder, whole. -/
theorem fresh_done {w w2 : World} {T T2 : Nat → Nat} {G n R : Nat} {lk : Bool} {rows : List (List Int)} {nb m1 m2 : Value} {B : Nat → Nat} (ho : Own w2 T2 (AD (A15 G n nb R m1 m2) n B mkIdx) R0) (st : Step finT w T w2 T2)
    (hnb : NbAt G w2 nb n lk rows) (hlow : ∀ b, b < G → T2 b = 0) :
    FX w T G n lk rows none (.pointer (some ⟨w2.heap.size, 0, none⟩)) ((w2.alloc (.cells (FV.fresh G w2.heap.size R n nb m1 m2 B).fields.toArray 73)).setCell ⟨R, 4, none⟩ (.pointer (some ⟨w2.heap.size, 0, none⟩))) := by
  generalize hF : w2.heap.size = F
  have hb : Below w2.heap.size w2 (w2.alloc (.cells (FV.fresh G F R n nb m1 m2 B).fields.toArray 73)) := below_laid _ _
  have hr : Rw (w2.alloc (.cells (FV.fresh G F R n nb m1 m2 B).fields.toArray 73)) F 73 (FV.fresh G F R n nb m1 m2 B).fields := by rw [← hF]; exact Rw.new w2 73 _
  have a1 := ho.addArr (t := 1) hb hr (by omega) (by rw [AD_other (by decide)]; rfl) rfl (by omega)
  have s1 : Step finT w T (w2.alloc (.cells (FV.fresh G F R n nb m1 m2 B).fields.toArray 73)) (retag T2 F 1) := st.trans (Step.add hb (by omega))
  have e15 : ((AD (A15 G n nb R m1 m2) n B mkIdx).upd 1 (F, 73, (FV.fresh G F R n nb m1 m2 B).fields)) 15 = some (R, 87, rec1 m1 m2) := by rw [Lay.upd_ne _ _ (by omega), AD_other (by decide)]; rfl
  have a2 := a1.set e15 rfl 4 (ptr0 F)
  have s2 := s1.set (b := R) (o := 4) (by rw [(a1.arr _ _ _ _ e15).1]; exact (by decide : (15 : Nat) ≠ 0)) (ptr0 F)
  have e14 : ((AD (A15 G n nb R m1 m2) n B mkIdx).upd 1 (F, 73, (FV.fresh G F R n nb m1 m2 B).fields)) 14 = some (G, 83, grp1 n nb R) := by rw [Lay.upd_ne _ _ (by omega), AD_other (by decide)]; rfl
  have hG := a1.lt e14
  generalize w2.alloc (.cells (FV.fresh G F R n nb m1 m2 B).fields.toArray 73) = w3 at *
  have hG2 : G < w2.heap.size := ho.lt (t := 14) (e := 83) (l := grp1 n nb R) (by rw [AD_other (by decide)]; rfl)
  refine ⟨retag T2 F 1, FV.fresh G F R n nb m1 m2 B, rfl, ⟨⟨?_, FV.fresh_len _ _ _ _ _ _ _ _⟩, ?_, ?_⟩, rfl, rfl, s2, ⟨rfl, rfl, rfl, rfl, rfl, rfl, rfl, rfl, rfl⟩⟩
  · refine (a2.sub (A' := (FV.fresh G F R n nb m1 m2 B).A) (R' := R0) (fun t x hx => ?_) (fun _ _ h => h)).nilRows (fun t v e z k xs h => FV.fresh_R _ _ _ _ _ _ _ _ h)
    have key : ∀ i ∈ mkIdx, t = mkTag i → ((AD (A15 G n nb R m1 m2) n B mkIdx).upd 1 (F, 73, (FV.fresh G F R n nb m1 m2 B).fields)).upd 15 (R, 87, (rec1 m1 m2).set 4 (ptr0 F)) t = some (B i, mkEl i, List.replicate (mkSz n i) (mkZ i)) := by
      intro i hi e
      have h1 : ∀ i ∈ mkIdx, mkTag i ≠ 15 ∧ mkTag i ≠ 1 := by decide
      rw [e, Lay.upd_ne _ _ (h1 i hi).1, Lay.upd_ne _ _ (h1 i hi).2, AD_all hi]
    rw [← hx]
    by_cases e1 : t = 1
    · subst e1; rw [Lay.upd_ne _ _ (by omega), Lay.upd_same]; rfl
    by_cases e2 : t = 2
    · rw [key 2 (by decide) e2]; subst e2; simp [FV.A, FV.fresh, mkEl, mkSz, mkZ]
    by_cases e3 : t = 3
    · rw [key 6 (by decide) e3]; subst e3; simp [FV.A, FV.fresh, mkEl, mkSz, mkZ]
    by_cases e4 : t = 4
    · rw [key 8 (by decide) e4]; subst e4; simp [FV.A, FV.fresh, mkEl, mkSz, mkZ]
    by_cases e5 : t = 5
    · subst e5; simp [FV.A] at hx
    by_cases e6 : t = 6
    · subst e6; simp [FV.A] at hx
    by_cases e7 : t = 7
    · rw [key 16 (by decide) e7]; subst e7; simp [FV.A, FV.fresh, mkEl, mkSz, mkZ]
    by_cases e8 : t = 8
    · rw [key 20 (by decide) e8]; subst e8; simp [FV.A, FV.fresh, mkEl, mkSz, mkZ]
    by_cases e9 : t = 9
    · rw [key 24 (by decide) e9]; subst e9; simp [FV.A, FV.fresh, mkEl, mkSz, mkZ]
    by_cases e10 : t = 10
    · rw [key 28 (by decide) e10]; subst e10; simp [FV.A, FV.fresh, mkEl, mkSz, mkZ]
    by_cases e15' : t = 15
    · subst e15'; rw [Lay.upd_same]; rfl
    have hno : ∀ i ∈ mkIdx, mkTag i ≠ t := by
      intro i hi
      simp only [mkIdx, List.mem_cons, List.not_mem_nil, or_false] at hi
      rcases hi with rfl | rfl | rfl | rfl | rfl | rfl | rfl | rfl | rfl <;> simp only [mkTag] <;> omega
    rw [Lay.upd_ne _ _ e15', Lay.upd_ne _ _ e1, AD_other hno]
    by_cases e14' : t = 14
    · subst e14'; rfl
    · simp [FV.A, FV.fresh, A15, e1, e2, e3, e4, e7, e8, e9, e10, e14', e15']
  · exact hnb.later ((Step.trans (Step.add (M := finT) (T := T2) hb (by omega) : Step finT w2 T2 w3 (retag T2 F 1)) (Step.set (Step.refl _ _ _) (b := R) (o := 4) (by rw [(a1.arr _ _ _ _ e15).1]; exact (by decide : (15 : Nat) ≠ 0)) (ptr0 F))).below (Nat.le_of_lt hG2) (fun i hi hh => hh (hlow i hi)))
  · intro b hb'
    have hb2 : b < G := hb'
    unfold retag
    rw [if_neg (by omega)]
    exact hlow b hb2
end Go.Proofs.Qxb6605292a
