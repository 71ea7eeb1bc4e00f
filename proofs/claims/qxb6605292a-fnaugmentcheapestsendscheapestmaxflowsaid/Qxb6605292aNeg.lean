/-
  zzNoNegativeCycle (f38): with a potential some pass changes nothing.
-/
import Derived.Test.Qxb6605292aSpfaE
import Derived.Test.Qxb6605292aFlow
import Derived.Test.Qxb6605292aNis
import Derived.Deep.DeepCutAuto
namespace Go.Proofs.Qxb6605292a
open Go.RowKit

/-- What pass k holds, with the first a arcs taken: lc the pass of a node's last change, tm its time. -/
structure BFI (n sink : Nat) (bl : Option (List Bool)) (l : List Arc) (pt : Nat → Int) (ds : List Int) (lc tm : Nat → Nat) (tk k a : Nat) : Prop where
  len : ds.length = 2 * n + 1
  lo : ∀ x, x < 2 * n + 1 → pt x - pt sink ≤ lbA ds x
  hi : ∀ x, x < 2 * n + 1 → lbA ds x ≤ 0
  par : ∀ x, x < 2 * n + 1 → 1 ≤ lc x → ∃ u, u < 2 * n + 1 ∧ lc x ≤ lc u + 1 ∧ (lbA ds u - pt u < lbA ds x - pt x ∨ (lbA ds u - pt u = lbA ds x - pt x ∧ tm u < tm x))
  tick : ∀ x, tm x < tk
  top : ∀ x, lc x ≤ k
  arc : ∀ b t h : Nat, b < l.length → toAt l (twin b) = (t : Int) → toAt l b = (h : Int) → roomAt l b ≠ 0 → allowB n sink bl t = true → allowB n sink bl h = true → lbA ds h ≤ lbA ds t + costAt l b ∨ (if b < a then k else k - 1) ≤ lc t
section
variable {n sink : Nat} {bl : Option (List Bool)} {l : List Arc} {pt : Nat → Int} {ds : List Int} {lc tm : Nat → Nat} {tk k a : Nat}
theorem lbA_rep (m x : Nat) : lbA (List.replicate m 0) x = 0 := by
  unfold lbA
  rw [List.getD_eq_getElem?_getD, List.getElem?_replicate]
  split <;> rfl
theorem BFI.start (hP : Pot n sink bl l pt) : BFI n sink bl l pt (List.replicate (2 * n + 1) 0) (fun _ => 0) (fun _ => 0) 1 1 0 := by
  refine ⟨by simp, fun x _ => ?_, fun x _ => ?_, fun x _ h => by omega, fun _ => by omega, fun _ => by omega, fun b t h _ _ _ _ _ _ => .inr ?_⟩
  · rw [lbA_rep]; have := hP.hi x; omega
  · rw [lbA_rep]; exact Int.le_refl _
  · rw [if_neg (by omega)]; exact Nat.zero_le _
theorem BFI.skip (h : BFI n sink bl l pt ds lc tm tk k a) (hs : ∀ t y : Nat, toAt l (twin a) = (t : Int) → toAt l a = (y : Int) → roomAt l a ≠ 0 → allowB n sink bl t = true → allowB n sink bl y = true → lbA ds y ≤ lbA ds t + costAt l a) : BFI n sink bl l pt ds lc tm tk k (a + 1) := by
  refine ⟨h.len, h.lo, h.hi, h.par, h.tick, h.top, fun b t y hb ht hy hr h1 h2 => ?_⟩
  by_cases e : b = a
  · subst e; exact .inl (hs t y ht hy hr h1 h2)
  · rcases h.arc b t y hb ht hy hr h1 h2 with g | g
    · exact .inl g
    · right
      by_cases e2 : b < a
      · rw [if_pos (by omega)]; rw [if_pos e2] at g; exact g
      · rw [if_neg (by omega)]; rw [if_neg e2] at g; exact g
theorem BFI.relax (h : BFI n sink bl l pt ds lc tm tk k a) (hP : Pot n sink bl l pt) {t y : Nat} {d : Int} (ha : a < l.length) (ht : toAt l (twin a) = (t : Int)) (hy : toAt l a = (y : Int)) (htl : t < 2 * n + 1) (hyl : y < 2 * n + 1) (hr : roomAt l a ≠ 0) (h1 : allowB n sink bl t = true) (h2 : allowB n sink bl y = true) (hd : d = lbA ds t + costAt l a) (hlt : d < lbA ds y) :
    BFI n sink bl l pt (ds.set y d) (fun x => if x = y then k else lc x) (fun x => if x = y then tk else tm x) (tk + 1) k (a + 1) := by
  have hpa := hP.arc a t y ha ht hy hr h1 h2
  have hty : t ≠ y := by
    rintro rfl
    omega
  have hdy : lbA (ds.set y d) y = d := lbA_same (by rw [h.len]; exact hyl) d
  have hdx : ∀ x, x ≠ y → lbA (ds.set y d) x = lbA ds x := fun x hx => lbA_ne ds hx d
  have hlot := h.lo t htl
  have hlk : k - 1 ≤ lc t := by
    rcases h.arc a t y ha ht hy hr h1 h2 with g | g
    · omega
    · rw [if_neg (by omega)] at g; exact g
  refine ⟨by rw [List.length_set]; exact h.len, fun x hx => ?_, fun x hx => ?_, fun x hx hl => ?_, fun x => ?_, fun x => ?_, fun b t' y' hb ht' hy' hr' h1' h2' => ?_⟩
  · by_cases e : x = y
    · subst e; rw [hdy]; omega
    · rw [hdx x e]; exact h.lo x hx
  · by_cases e : x = y
    · subst e; rw [hdy]; have := h.hi x hx; omega
    · rw [hdx x e]; exact h.hi x hx
  · by_cases e : x = y
    · subst e
      refine ⟨t, htl, ?_, ?_⟩
      · show (if x = x then k else lc x) ≤ (if t = x then k else lc t) + 1
        rw [if_pos rfl, if_neg hty]; omega
      · show _ ∨ (_ ∧ (if t = x then tk else tm t) < (if x = x then tk else tm x))
        rw [hdy, hdx t hty, if_neg hty, if_pos rfl]
        have := h.tick t
        omega
    · have hl' : 1 ≤ lc x := by
        have hl2 : 1 ≤ (if x = y then k else lc x) := hl
        rw [if_neg e] at hl2; exact hl2
      obtain ⟨u, u1, u2, u3⟩ := h.par x hx hl'
      refine ⟨u, u1, ?_, ?_⟩
      · show (if x = y then k else lc x) ≤ (if u = y then k else lc u) + 1
        rw [if_neg e]
        by_cases e2 : u = y
        · rw [if_pos e2]; have := h.top x; omega
        · rw [if_neg e2]; exact u2
      · show _ ∨ (_ ∧ (if u = y then tk else tm u) < (if x = y then tk else tm x))
        rw [hdx x e, if_neg e]
        by_cases e2 : u = y
        · subst e2
          rw [hdy]
          omega
        · rw [hdx u e2, if_neg e2]; exact u3
  · show (if x = y then tk else tm x) < tk + 1
    have := h.tick x
    split <;> omega
  · show (if x = y then k else lc x) ≤ k
    have := h.top x
    split <;> omega
  · show _ ∨ _ ≤ (if t' = y then k else lc t')
    by_cases e : t' = y
    · right
      rw [if_pos e]
      split <;> omega
    · rw [if_neg e, hdx t' e]
      by_cases eb : b = a
      · subst eb
        left
        have e1 : t' = t := by omega
        have e2 : y' = y := by omega
        subst e1 e2
        rw [hdy, hd]; exact Int.le_refl _
      · have key : (if b < a + 1 then k else k - 1) = (if b < a then k else k - 1) := by
          by_cases e2 : b < a
          · rw [if_pos e2, if_pos (by omega)]
          · rw [if_neg e2, if_neg (by omega)]
        rw [key]
        rcases h.arc b t' y' hb ht' hy' hr' h1' h2' with g | g
        · left
          by_cases e2 : y' = y
          · subst e2; rw [hdy]; omega
          · rw [hdx y' e2]; exact g
        · exact .inr g
theorem BFI.next (h : BFI n sink bl l pt ds lc tm tk k l.length) : BFI n sink bl l pt ds lc tm tk (k + 1) 0 := by
  refine ⟨h.len, h.lo, h.hi, h.par, h.tick, fun x => by have := h.top x; omega, fun b t y hb ht hy hr h1 h2 => ?_⟩
  rcases h.arc b t y hb ht hy hr h1 h2 with g | g
  · exact .inl g
  · right
    rw [if_neg (by omega)]
    rw [if_pos hb] at g
    omega
theorem BFI.chain (h : BFI n sink bl l pt ds lc tm tk k a) : ∀ j x : Nat, x < 2 * n + 1 → j ≤ lc x → ∃ ns : List Nat, ns.length = j + 1 ∧ ns.Nodup ∧ ∀ z ∈ ns, z < 2 * n + 1 ∧ (lbA ds z - pt z < lbA ds x - pt x ∨ (lbA ds z - pt z = lbA ds x - pt x ∧ tm z ≤ tm x)) := by
  intro j
  induction j with
  | zero =>
    intro x hx _
    exact ⟨[x], rfl, by simp, fun z hz => by rw [List.mem_singleton] at hz; subst hz; exact ⟨hx, .inr ⟨rfl, Nat.le_refl _⟩⟩⟩
  | succ j ih =>
    intro x hx hl
    obtain ⟨u, u1, u2, u3⟩ := h.par x hx (by omega)
    obtain ⟨ns, g1, g2, g3⟩ := ih u u1 (by omega)
    refine ⟨x :: ns, by rw [List.length_cons, g1], List.nodup_cons.2 ⟨fun hm => ?_, g2⟩, fun z hz => ?_⟩
    · have := (g3 x hm).2
      omega
    · rcases List.mem_cons.1 hz with rfl | hz
      · exact ⟨hx, .inr ⟨rfl, Nat.le_refl _⟩⟩
      · have := (g3 z hz).2
        exact ⟨(g3 z hz).1, by omega⟩
theorem BFI.bound (h : BFI n sink bl l pt ds lc tm tk k a) {x : Nat} (hx : x < 2 * n + 1) : lc x + 1 ≤ 2 * n + 1 := by
  obtain ⟨ns, g1, g2, g3⟩ := h.chain (lc x) x hx (Nat.le_refl _)
  have := nodup_len g2 (fun z hz => (g3 z hz).1)
  omega
end
def BFE (n sink : Nat) (bl : Option (List Bool)) (l : List Arc) (pt : Nat → Int) (ds : List Int) (k a : Nat) (ch : Bool) : Prop := ∃ lc tm tk, BFI n sink bl l pt ds lc tm tk k a ∧ (ch = true → ∃ x, x < 2 * n + 1 ∧ k ≤ lc x)
/-- What the walk holds. -/
structure NgI (w : World) (g1 g2 g3 H : Nat) (hs l : List Arc) (ds : List Int) (wr : World) : Prop where
  b : Below H w wr
  r1 : Rw wr g1 21 ((hs.map Arc.to).map (.int .i32))
  r2 : Rw wr g2 56 ((hs.map Arc.cost).map (.int .i8))
  r3 : Rw wr g3 56 ((l.map Arc.room).map (.int .i8))
  m : Rw wr H 21 (ds.map (.int .i32))
section
variable {w : World} {g1 g2 g3 H : Nat} {hs l : List Arc} {ds : List Int} {wr : World}
theorem NgI.draws (h : NgI w g1 g2 g3 H hs l ds wr) (q : Nat) : NgI w g1 g2 g3 H hs l ds (wr.drewN q) := ⟨below_draws h.b q, h.r1, h.r2, h.r3, h.m⟩
theorem NgI.set (h : NgI w g1 g2 g3 H hs l ds wr) (hg1 : g1 < H) (hg2 : g2 < H) (hg3 : g3 < H) (i : Nat) (y : Int) : NgI w g1 g2 g3 H hs l (ds.set i y) (wr.setCell ⟨H, i, none⟩ (.int .i32 y)) :=
  ⟨h.b.setCell (p := ⟨H, i, none⟩) (Nat.le_refl _) _, h.r1.set_ne (p := ⟨H, i, none⟩) (by show g1 ≠ H; omega) _, h.r2.set_ne (p := ⟨H, i, none⟩) (by show g2 ≠ H; omega) _, h.r3.set_ne (p := ⟨H, i, none⟩) (by show g3 ≠ H; omega) _,
    by rw [List.map_set]; exact h.m.set i _⟩
theorem NgI.to (h : NgI w g1 g2 g3 H hs l ds wr) (hl : hs.length = l.length) (ht : ∀ a, toAt hs a = toAt l a) {a y : Nat} (ha : a < l.length) (hy : toAt l a = (y : Int)) : wr.cell? ⟨g1, a, none⟩ = some (.int .i32 (y : Int)) := by
  rw [h.r1.cell, List.getElem?_map, List.getElem?_map, List.getElem?_eq_getElem (by omega)]
  have := ht a
  rw [hy, toAt_get (by omega)] at this
  simp [this]
theorem NgI.cost (h : NgI w g1 g2 g3 H hs l ds wr) (hl : hs.length = l.length) (ht : ∀ a, costAt hs a = costAt l a) {a : Nat} (ha : a < l.length) : wr.cell? ⟨g2, a, none⟩ = some (.int .i8 (costAt l a)) := by
  rw [h.r2.cell, List.getElem?_map, List.getElem?_map, List.getElem?_eq_getElem (by omega)]
  have := ht a
  rw [costAt_get (by omega)] at this
  simp [this]
theorem NgI.room (h : NgI w g1 g2 g3 H hs l ds wr) {a : Nat} (ha : a < l.length) : wr.cell? ⟨g3, a, none⟩ = some (.int .i8 (roomAt l a)) := by
  rw [h.r3.cell, roomAt_get ha]
  simp [ha]
theorem NgI.lb (h : NgI w g1 g2 g3 H hs l ds wr) {x : Nat} (hx : x < ds.length) : wr.cell? ⟨H, x, none⟩ = some (.int .i32 (lbA ds x)) := by
  rw [h.m.cell, List.getElem?_map]
  unfold lbA
  simp [hx]
end
theorem bits_twin64 (a : Nat) (h : a < 4611686018427387904) : bits .xor .i64 (a : Int) 1 = (twin a : Int) := bits_xor_one a h
def NegR (w : World) (e : Ending) (w' : World) : Prop := e = .returned (.bool true) ∧ Below w.heap.size w w'

set_option maxRecDepth 100000 in
set_option maxHeartbeats 4000000 in
theorem noNeg_any (w : World) (n sink g1 g2 g3 : Nat) (hs l : List Arc) (pt : Nat → Int) (blk : Option (List Bool)) (vb : Value) (hn : n ≤ 256) (hsk : sink < 2 * n) (hb : BlkV w vb n blk) (h1 : Rw w g1 21 ((hs.map Arc.to).map (.int .i32))) (h2 : Rw w g2 56 ((hs.map Arc.cost).map (.int .i8))) (h3 : Rw w g3 56 ((l.map Arc.room).map (.int .i8)))
    (hhl : hs.length = l.length) (hht : ∀ a, toAt hs a = toAt l a) (hhc : ∀ a, costAt hs a = costAt l a) (hsm : l.length ≤ 1000000) (hev : l.length % 2 = 0) (htos : ∀ a, a < l.length → ∃ y : Nat, toAt l a = (y : Int) ∧ y < 2 * n + 1) (hrm : Rm l) (hC : Cst n l) (hP : Pot n sink blk l pt) :
    Calls Try.prog 38 #[at0 g1 hs.length, at0 g2 hs.length, at0 g3 l.length, .int .i64 n, .int .i64 sink, vb] w fun e w' => NegR w e w' := by
  obtain ⟨i0, hi0, hz0, hz1, hz2⟩ := info_parts Try.info21
  obtain ⟨H, hH⟩ := size_name w
  have HH : Hid (w.heap.size = H) := hH
  have hg1 : g1 < H := by rw [← hH]; exact h1.lt
  have hg2 : g2 < H := by rw [← hH]; exact h2.lt
  have hg3 : g3 < H := by rw [← hH]; exact h3.lt
  have HB : Hid (BlkV w vb n blk) := hb
  obtain ⟨ao, bn, bc, rfl⟩ := hb.form
  have H1 : Hid (Rw w g1 21 ((hs.map Arc.to).map (.int .i32))) := h1
  have H2 : Hid (Rw w g2 56 ((hs.map Arc.cost).map (.int .i8))) := h2
  have H3 : Hid (Rw w g3 56 ((l.map Arc.room).map (.int .i8))) := h3
  have HHL : Hid (hs.length = l.length) := hhl
  have HHT : Hid (∀ a, toAt hs a = toAt l a) := hht
  have HHC : Hid (∀ a, costAt hs a = costAt l a) := hhc
  have HTO : Hid (∀ a, a < l.length → ∃ y : Nat, toAt l a = (y : Int) ∧ y < 2 * n + 1) := htos
  have HRM : Hid (Rm l) := hrm
  have HC : Hid (Cst n l) := hC
  have HP : Hid (Pot n sink blk l pt) := hP
  rw [hhl]
  obtain ⟨L, hL⟩ : ∃ L, l.length = L := ⟨_, rfl⟩
  have HLL : Hid (l.length = L) := hL
  have HEV : Hid (l.length % 2 = 0) := hev
  rw [hL]
  rw [hL] at hsm
  clear hH hb h1 h2 h3 hhl hht hhc htos hrm hC hP hL hev
  have hw1 : IntKind.i64.wrap (2 * (n : Int)) = 2 * n := by rw [IntKind.wrap_i64]; omega
  unfold at0
  go_enter Try.func38, Try.ntmps38
  go_wp2_with (at_make; refine wpList_mk _ rfl _ _ _ rfl 21 i0 (.int .i32 0) 4 Try.underlying45 hi0 hz0 hz1 hz2 rfl _ _ _ _ (2 * n + 1) rfl rfl (by omega) (by omega) (by omega) (by unfold maxLen; omega) H HH.out ?_; intro w1 hr hb hsz)
  have HI : Hid (NgI w g1 g2 g3 H hs l (List.replicate (2 * n + 1) 0) w1) :=
    ⟨hb, H1.out.below hb hg1, H2.out.below hb hg2, H3.out.below hb hg3, by simpa using hr⟩
  have HE0 : Hid (BFE n sink blk l pt (List.replicate (2 * n + 1) 0) 1 0 false) := ⟨_, _, _, BFI.start HP.out, fun h => by cases h⟩
  clear hr hb hsz H1 H2 H3
  go_loopw [16] (fun c wr => ∃ (p : Nat) (ds : List Int), p ≤ 2 * n ∧ c = .int .i64 p ∧ Hid (NgI w g1 g2 g3 H hs l ds wr) ∧ Hid (BFE n sink blk l pt ds (p + 1) 0 false)) (fun c _ => 2 * n + 1 - (intOf c).toNat)
  case atStart => exact ⟨0, _, Nat.zero_le _, rfl, HI, HE0⟩
  case round =>
    obtain ⟨p, ds0, hp, rfl, HR, HE⟩ := hrel
    clear HI HE0
    have hd31 : decide ((p : Int) < 2 * (n : Int) + 1) = true := decide_eq_true (by omega)
    go_wp2
    clear hd31
    go_loopw [17, 18] (fun f c wr => ∃ (a : Nat) (ds : List Int) (ch : Bool), a ≤ L ∧ c = .int .i64 a ∧ f = .bool ch ∧ Hid (NgI w g1 g2 g3 H hs l ds wr) ∧ Hid (BFE n sink blk l pt ds (p + 1) a ch)) (fun _ c _ => L - (intOf c).toNat)
    case atStart => exact ⟨0, ds0, false, Nat.zero_le _, rfl, rfl, HR, HE⟩
    case round =>
      obtain ⟨a, ds, ch, ha, rfl, rfl, HR2, HE2⟩ := hrel
      clear HR HE
      by_cases hlt : a < L
      · have hal : a < l.length := by rw [HLL.out]; exact hlt
        obtain ⟨r, hr⟩ : ∃ r, roomAt l a = r := ⟨_, rfl⟩
        have cr : wr.cell? ⟨g3, a, none⟩ = some (.int .i8 r) := by rw [HR2.out.room hal, hr]
        have hr0 : 0 ≤ r := by rw [← hr]; exact HRM.out.lo a
        have HR0 : Hid (roomAt l a = r) := hr
        clear hr
        by_cases h0 : r = 0
        · have HN : Hid (BFE n sink blk l pt ds (p + 1) (a + 1) ch) := by
            obtain ⟨lc, tm, tk, g1, g2⟩ := HE2.out
            exact ⟨lc, tm, tk, g1.skip (fun t y _ _ hh => absurd (by rw [HR0.out]; exact h0) hh), g2⟩
          have hb : decide (r ≤ 0) = true := decide_eq_true (by omega)
          clear h0 HE2
          go_wp2
          go_roundw
          case rel => exact ⟨a + 1, ds, ch, by omega, by go_num, rfl, HR2, HN⟩
          case measure => simp [intOf]; omega
        · have hb0 : decide (r ≤ 0) = false := decide_eq_false (by omega)
          obtain ⟨y, hy1, hy2⟩ := HTO.out a hal
          have hatw : twin a < l.length := by have := HEV.out; unfold twin; split <;> omega
          obtain ⟨t, ht1, ht2⟩ := HTO.out (twin a) hatw
          have ct : wr.cell? ⟨g1, twin a, none⟩ = some (.int .i32 (t : Int)) := HR2.out.to HHL.out HHT.out hatw ht1
          have cy : wr.cell? ⟨g1, a, none⟩ = some (.int .i32 (y : Int)) := HR2.out.to HHL.out HHT.out hal hy1
          have hxo : bits .xor .i64 (a : Int) 1 = (twin a : Int) := bits_twin64 a (by omega)
          have HTT : Hid (toAt l (twin a) = (t : Int)) := ht1
          have HYY : Hid (toAt l a = (y : Int)) := hy1
          have HCC : Hid (wr.cell? ⟨g2, a, none⟩ = some (.int .i8 (costAt l a))) := HR2.out.cost HHL.out HHC.out hal
          obtain ⟨tw, htw⟩ : ∃ b, twin a = b := ⟨_, rfl⟩
          have htwl : tw < L := by rw [← htw, ← HLL.out]; exact hatw
          rw [htw] at ct hxo
          clear ht1 hy1 htw hatw
          have hb1 : decide ((t : Int) < 0) = false := decide_eq_false (by omega)
          have hb2 : decide (2 * (n : Int) + 1 ≤ (t : Int)) = false := decide_eq_false (by omega)
          have hb3 : decide ((y : Int) < 0) = false := decide_eq_false (by omega)
          have hb4 : decide (2 * (n : Int) + 1 ≤ (y : Int)) = false := decide_eq_false (by omega)
          have HBW : Hid (BlkV wr (.slice ao bn bc) n blk) := HB.out.later (by rw [HH.out]; exact HR2.out.b)
          obtain ⟨dt, hdt⟩ : ∃ d, lbA ds t = d := ⟨_, rfl⟩
          obtain ⟨dy, hdy⟩ : ∃ d, lbA ds y = d := ⟨_, rfl⟩
          obtain ⟨ca, hca⟩ : ∃ d, costAt l a = d := ⟨_, rfl⟩
          have HLN : Hid (ds.length = 2 * n + 1 ∧ -(2 * (n : Int)) ≤ dt ∧ dt ≤ 0 ∧ -1 ≤ ca ∧ ca ≤ 1) := by
            obtain ⟨lc, tm, tk, g1, g2⟩ := HE2.out
            have k1 := g1.lo t ht2
            have k2 := g1.hi t ht2
            have k3 := HP.out.lo t
            have k4 := HP.out.top
            have k5 := HC.out.lo a
            have k6 := HC.out.hi a
            rw [hdt] at k1 k2
            rw [hca] at k5 k6
            exact ⟨g1.len, by omega, k2, k5, k6⟩
          have HDT : Hid (lbA ds t = dt) := hdt
          have HDY : Hid (lbA ds y = dy) := hdy
          have HCA : Hid (costAt l a = ca) := hca
          rw [hca] at HCC
          clear hdt hdy hca
          go_wp2_with fail
          refine (allowed_any t n sink blk _ wr HBW.out ht2 hn hsk).mono ?_
          rintro e w3 ⟨rfl, rfl⟩
          cases hat : allowB n sink blk t with
          | false =>
            have HN : Hid (BFE n sink blk l pt ds (p + 1) (a + 1) ch) := by
              obtain ⟨lc, tm, tk, g1, g2⟩ := HE2.out
              refine ⟨lc, tm, tk, g1.skip (fun t' y' e1 _ _ hh => ?_), g2⟩
              have e2 := HTT.out
              have e3 : t' = t := by omega
              rw [e3, hat] at hh
              cases hh
            clear HE2 hat HCC HBW HTT HYY HDT HDY HCA HLN
            go_wp2
            go_roundw
            case rel => exact ⟨a + 1, ds, ch, by omega, by go_num, rfl, HR2, HN⟩
            case measure => simp [intOf]; omega
          | true =>
            have HAT : Hid (allowB n sink blk t = true) := hat
            clear hat
            go_wp2_with fail
            refine (allowed_any y n sink blk _ w3 HBW.out hy2 hn hsk).mono ?_
            rintro e w4 ⟨rfl, rfl⟩
            cases hay : allowB n sink blk y with
            | false =>
              have HN : Hid (BFE n sink blk l pt ds (p + 1) (a + 1) ch) := by
                obtain ⟨lc, tm, tk, g1, g2⟩ := HE2.out
                refine ⟨lc, tm, tk, g1.skip (fun t' y' _ e1 _ _ hh => ?_), g2⟩
                have e2 := HYY.out
                have e3 : y' = y := by omega
                rw [e3, hay] at hh
                cases hh
              clear HE2 hay HCC HBW HTT HYY HDT HDY HCA HLN HAT
              go_wp2
              go_roundw
              case rel => exact ⟨a + 1, ds, ch, by omega, by go_num, rfl, HR2, HN⟩
              case measure => simp [intOf]; omega
            | true =>
              have HAY : Hid (allowB n sink blk y = true) := hay
              clear hay
              have hln := HLN.out
              have cdt : w4.cell? ⟨H, t, none⟩ = some (.int .i32 dt) := by rw [HR2.out.lb (by rw [hln.1]; exact ht2), HDT.out]
              have cca : w4.cell? ⟨g2, a, none⟩ = some (.int .i8 ca) := HCC.out
              have hwca : IntKind.i32.wrap ca = ca := wrap_i32_in (by omega) (by omega)
              have hwd : IntKind.i32.wrap (dt + ca) = dt + ca := wrap_i32_in (by omega) (by omega)
              go_upto_region 17 with fail
              go_quiet (fail)
              go_upto_region 18 with fail
              have HR3 : Hid (NgI w g1 g2 g3 H hs l ds (w4.drewN nq)) := HR2.out.draws nq
              clear cdt cca HCC HR2 HBW cr ct cy
              generalize w4.drewN nq = w5 at *
              have cdy : w5.cell? ⟨H, y, none⟩ = some (.int .i32 dy) := by rw [HR3.out.lb (by rw [hln.1]; exact hy2), HDY.out]
              have fdy : w5.frozen? ⟨H, y, none⟩ = false := HR3.out.m.frozen y
              obtain ⟨d, hd⟩ : ∃ d, dt + ca = d := ⟨_, rfl⟩
              have HDD : Hid (d = dt + ca) := hd.symm
              rw [hd]
              clear hd hwd hwca hln
              by_cases hdl : d < dy
              · have hb5 : decide (d < dy) = true := decide_eq_true hdl
                have HN : Hid (BFE n sink blk l pt (ds.set y d) (p + 1) (a + 1) true) := by
                  obtain ⟨lc, tm, tk, g1, g2⟩ := HE2.out
                  exact ⟨_, _, _, g1.relax HP.out hal HTT.out HYY.out ht2 hy2 (by rw [HR0.out]; exact h0) HAT.out HAY.out (by rw [HDT.out, HCA.out]; exact HDD.out) (by rw [HDY.out]; exact hdl), fun _ => ⟨y, hy2, by show p + 1 ≤ (if y = y then p + 1 else lc y); rw [if_pos rfl]; exact Nat.le_refl _⟩⟩
                have HR4 : Hid (NgI w g1 g2 g3 H hs l (ds.set y d) (w5.setCell ⟨H, y, none⟩ (.int .i32 d))) := HR3.out.set hg1 hg2 hg3 y d
                clear HE2 HTT HYY HDT HDY HCA HLN HAT HAY HDD HR3 hdl
                go_wp2
                go_roundw
                case rel => exact ⟨a + 1, _, true, by omega, by go_num, rfl, HR4, HN⟩
                case measure => simp [intOf]; omega
              · have hb5 : decide (d < dy) = false := decide_eq_false hdl
                have HN : Hid (BFE n sink blk l pt ds (p + 1) (a + 1) ch) := by
                  obtain ⟨lc, tm, tk, g1, g2⟩ := HE2.out
                  refine ⟨lc, tm, tk, g1.skip (fun t' y' e1 e2 _ _ _ => ?_), g2⟩
                  have e3 := HTT.out
                  have e4 := HYY.out
                  have e5 : t' = t := by omega
                  have e6 : y' = y := by omega
                  rw [e5, e6, HDT.out, HDY.out, HCA.out, ← HDD.out]
                  omega
                clear HE2 HTT HYY HDT HDY HCA HLN HAT HAY HDD hdl
                go_wp2
                go_roundw
                case rel => exact ⟨a + 1, ds, ch, by omega, by go_num, rfl, HR3, HN⟩
                case measure => simp [intOf]; omega
      · have hae : a = L := by omega
        subst hae
        cases ch with
        | false =>
          have HEND : Hid (NegR w (.returned (.bool true)) wr) := ⟨rfl, by rw [HH.out]; exact HR2.out.b⟩
          clear HE2 HR2
          go_wp2
          go_ret
          exact HEND.out
        | true =>
          have HN : Hid (p + 1 ≤ 2 * n ∧ BFE n sink blk l pt ds (p + 1 + 1) 0 false) := by
            obtain ⟨lc, tm, tk, g1, g2⟩ := HE2.out
            obtain ⟨x, hx, hl⟩ := g2 rfl
            have := g1.bound hx
            refine ⟨by omega, lc, tm, tk, ?_, fun h => by cases h⟩
            rw [← HLL.out] at g1
            exact g1.next
          have hp2 := HN.out.1
          clear HE2
          go_wp2
          go_roundw
          case rel => exact ⟨p + 1, ds, by omega, by go_num, HR2, HN.out.2⟩
          case measure => simp [intOf]; omega
end Go.Proofs.Qxb6605292a
