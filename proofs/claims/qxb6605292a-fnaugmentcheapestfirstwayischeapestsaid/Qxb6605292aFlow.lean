/-
  zzFlowValid (f32).
-/
import Derived.Test.Qxb6605292aAllow
import Derived.Test.Qxb6605292aBfs
namespace Go.Proofs.Qxb6605292a
open Go.RowKit

def ind (p : Prop) [Decidable p] : Int := if p then 1 else 0
/-- What the first k pairs carry into node x. -/
def balF (l : List Arc) : Nat → Nat → Int
  | 0, _ => 0
  | k + 1, x => balF l k x + roomAt l (2 * k + 1) * (ind (toAt l (2 * k) = (x : Int)) - ind (toAt l (2 * k + 1) = (x : Int)))
theorem balF_bound (l : List Arc) (h0 : ∀ a, 0 ≤ roomAt l a) (h1 : ∀ a, roomAt l a ≤ 1) : ∀ k x : Nat, -(k : Int) ≤ balF l k x ∧ balF l k x ≤ (k : Int) := by
  intro k x
  induction k with
  | zero => simp [balF]
  | succ k ih =>
    unfold balF
    have a0 := h0 (2 * k + 1)
    have a1 := h1 (2 * k + 1)
    have hr : roomAt l (2 * k + 1) = 0 ∨ roomAt l (2 * k + 1) = 1 := by omega
    have e : -1 ≤ ind (toAt l (2 * k) = (x : Int)) - ind (toAt l (2 * k + 1) = (x : Int)) ∧ ind (toAt l (2 * k) = (x : Int)) - ind (toAt l (2 * k + 1) = (x : Int)) ≤ 1 := by
      unfold ind; split <;> split <;> omega
    rcases hr with hr | hr
    · rw [hr]; omega
    · rw [hr]; omega
def balL (V : Nat) (l : List Arc) (k : Nat) : List Int := (List.range V).map (balF l k)
theorem balL_len (V : Nat) (l : List Arc) (k : Nat) : (balL V l k).length = V := by simp [balL]
theorem balL_get (V : Nat) (l : List Arc) (k : Nat) {x : Nat} (hx : x < V) : (balL V l k)[x]? = some (balF l k x) := by simp [balL, hx]
theorem balL_zero (V : Nat) (l : List Arc) : balL V l 0 = List.replicate V 0 := by
  apply List.ext_getElem?
  intro j
  by_cases h : j < V <;> simp [balL, balF, h]
theorem balL_skip (V : Nat) (l : List Arc) {k : Nat} (h : roomAt l (2 * k + 1) = 0) : balL V l (k + 1) = balL V l k := by
  unfold balL
  apply List.map_congr_left
  intro x _
  simp [balF, h]
/-- One pair that carries f, from t to h. -/
theorem balL_step (V : Nat) (l : List Arc) {k h t : Nat} (hh : toAt l (2 * k) = (h : Int)) (ht : toAt l (2 * k + 1) = (t : Int)) (hV : h < V) (tV : t < V) (f : Int) (hf : roomAt l (2 * k + 1) = f) :
    ∃ y, ((balL V l k).set t (balF l k t - f))[h]? = some y ∧ ((balL V l k).set t (balF l k t - f)).set h (y + f) = balL V l (k + 1) ∧ (y = balF l k h ∨ y = balF l k h - f) := by
  refine ⟨if t = h then balF l k h - f else balF l k h, ?_, ?_, by split <;> simp⟩
  · by_cases e : t = h
    · subst e; rw [List.getElem?_set_self (by rw [balL_len]; exact tV), if_pos rfl]
    · rw [List.getElem?_set_ne e, balL_get _ _ _ hV, if_neg e]
  · apply List.ext_getElem?
    intro x
    by_cases hx : x < V
    · rw [balL_get _ _ _ hx]
      have es : balF l (k + 1) x = balF l k x + f * (ind (h = x) - ind (t = x)) := by
        show balF l k x + roomAt l (2 * k + 1) * _ = _
        rw [hf, hh, ht]
        unfold ind
        have e1 : ((h : Int) = (x : Int)) ↔ h = x := by omega
        have e2 : ((t : Int) = (x : Int)) ↔ t = x := by omega
        simp only [e1, e2]
      rw [es]
      unfold ind
      by_cases e1 : h = x
      · subst e1
        rw [List.getElem?_set_self (by rw [List.length_set, balL_len]; exact hV)]
        by_cases e2 : t = h
        · simp [e2]
        · simp [e2]
      · rw [List.getElem?_set_ne e1]
        by_cases e2 : t = x
        · subst e2
          rw [List.getElem?_set_self (by rw [balL_len]; exact tV)]
          simp [e1]
          omega
        · rw [List.getElem?_set_ne e2, balL_get _ _ _ hx]
          simp [e1, e2]
    · rw [List.getElem?_eq_none (by rw [List.length_set, List.length_set, balL_len]; omega), List.getElem?_eq_none (by rw [balL_len]; omega)]
/-- What zzFlowValid asks. -/
structure FlowOk (n sink count : Nat) (l0 l : List Arc) (blk : Option (List Bool)) : Prop where
  len : l0.length = l.length
  ev : l.length % 2 = 0
  small : l.length ≤ 1000000
  odd0 : ∀ k, 2 * k + 1 < l.length → roomAt l0 (2 * k + 1) = 0
  lo : ∀ a, 0 ≤ roomAt l a
  hi : ∀ a, roomAt l a ≤ 1
  sum : ∀ k, 2 * k + 1 < l.length → roomAt l (2 * k) + roomAt l (2 * k + 1) = roomAt l0 (2 * k)
  tos : ∀ a, a < l.length → ∃ y : Nat, toAt l a = (y : Int) ∧ y < 2 * n + 1
  al : ∀ k (y z : Nat), 2 * k + 1 < l.length → roomAt l (2 * k + 1) ≠ 0 → toAt l (2 * k) = (y : Int) → toAt l (2 * k + 1) = (z : Int) → allowB n sink blk y = true ∧ allowB n sink blk z = true
  bal : ∀ x, x < 2 * n + 1 → balF l (l.length / 2) x = if x = 2 * n then -(count : Int) else if x = sink then (count : Int) else 0
def FvR (w : World) (e : Ending) (w' : World) : Prop := e = .returned (.bool true) ∧ Below w.heap.size w w'
/-- What the walk holds. -/
structure FI (w : World) (g1 g2 g3 H : Nat) (hs l0 l : List Arc) (bl : List Int) (wr : World) : Prop where
  b : Below H w wr
  r1 : Rw wr g1 21 ((hs.map Arc.to).map (.int .i32))
  r2 : Rw wr g2 56 ((l0.map Arc.room).map (.int .i8))
  r3 : Rw wr g3 56 ((l.map Arc.room).map (.int .i8))
  m : Rw wr H 3 (bl.map (.int .i64))
section
variable {w : World} {g1 g2 g3 H : Nat} {hs l0 l : List Arc} {bl : List Int} {wr : World}
theorem FI.draws (h : FI w g1 g2 g3 H hs l0 l bl wr) (q : Nat) : FI w g1 g2 g3 H hs l0 l bl (wr.drewN q) := ⟨below_draws h.b q, h.r1, h.r2, h.r3, h.m⟩
theorem FI.set (h : FI w g1 g2 g3 H hs l0 l bl wr) (hg1 : g1 < H) (hg2 : g2 < H) (hg3 : g3 < H) (i : Nat) (y : Int) : FI w g1 g2 g3 H hs l0 l (bl.set i y) (wr.setCell ⟨H, i, none⟩ (.int .i64 y)) :=
  ⟨h.b.setCell (p := ⟨H, i, none⟩) (Nat.le_refl _) _, h.r1.set_ne (p := ⟨H, i, none⟩) (by show g1 ≠ H; omega) _, h.r2.set_ne (p := ⟨H, i, none⟩) (by show g2 ≠ H; omega) _, h.r3.set_ne (p := ⟨H, i, none⟩) (by show g3 ≠ H; omega) _,
    by rw [List.map_set]; exact h.m.set i _⟩
theorem FI.to (h : FI w g1 g2 g3 H hs l0 l bl wr) (hl : hs.length = l.length) (ht : ∀ a, toAt hs a = toAt l a) {a y : Nat} (ha : a < l.length) (hy : toAt l a = (y : Int)) : wr.cell? ⟨g1, a, none⟩ = some (.int .i32 (y : Int)) := by
  rw [h.r1.cell, List.getElem?_map, List.getElem?_map, List.getElem?_eq_getElem (by omega)]
  have := ht a
  rw [hy, toAt_get (by omega)] at this
  simp [this]
theorem FI.laid (h : FI w g1 g2 g3 H hs l0 l bl wr) (hl : l0.length = l.length) {a : Nat} (ha : a < l.length) : wr.cell? ⟨g2, a, none⟩ = some (.int .i8 (roomAt l0 a)) := by
  rw [h.r2.cell, roomAt_get (by omega)]
  simp [show a < l0.length by omega]
theorem FI.after (h : FI w g1 g2 g3 H hs l0 l bl wr) {a : Nat} (ha : a < l.length) : wr.cell? ⟨g3, a, none⟩ = some (.int .i8 (roomAt l a)) := by
  rw [h.r3.cell, roomAt_get ha]
  simp [ha]
end

set_option maxRecDepth 100000 in
set_option maxHeartbeats 4000000 in
theorem flowValid_any (w : World) (n sink count g1 g2 g3 : Nat) (hs l0 l : List Arc) (blk : Option (List Bool)) (vb : Value) (hn : n ≤ 256) (hsk : sink < 2 * n) (hct : count ≤ 1000) (hb : BlkV w vb n blk) (h1 : Rw w g1 21 ((hs.map Arc.to).map (.int .i32))) (h2 : Rw w g2 56 ((l0.map Arc.room).map (.int .i8))) (h3 : Rw w g3 56 ((l.map Arc.room).map (.int .i8)))
    (hhl : hs.length = l.length) (hht : ∀ a, toAt hs a = toAt l a) (hok : FlowOk n sink count l0 l blk) :
    Calls Try.prog 32 #[at0 g1 hs.length, at0 g2 l0.length, at0 g3 l.length, .int .i64 n, .int .i64 sink, .int .i64 count, vb] w fun e w' => FvR w e w' := by
  obtain ⟨i0, hi0, hz0, hz1, hz2⟩ := info_parts Try.info3
  obtain ⟨H, hH⟩ := size_name w
  have HH : Hid (w.heap.size = H) := hH
  have hg1 : g1 < H := by rw [← hH]; exact h1.lt
  have hg2 : g2 < H := by rw [← hH]; exact h2.lt
  have hg3 : g3 < H := by rw [← hH]; exact h3.lt
  have HB : Hid (BlkV w vb n blk) := hb
  obtain ⟨ao, bn, bc, rfl⟩ := hb.form
  have H1 : Hid (Rw w g1 21 ((hs.map Arc.to).map (.int .i32))) := h1
  have H2 : Hid (Rw w g2 56 ((l0.map Arc.room).map (.int .i8))) := h2
  have H3 : Hid (Rw w g3 56 ((l.map Arc.room).map (.int .i8))) := h3
  have HHL : Hid (hs.length = l.length) := hhl
  have HHT : Hid (∀ a, toAt hs a = toAt l a) := hht
  have HOK : Hid (FlowOk n sink count l0 l blk) := hok
  have hsm := hok.small
  have hev := hok.ev
  rw [hhl, hok.len]
  clear hH hb h1 h2 h3 hhl hht hok
  obtain ⟨K, hK⟩ : ∃ K, l.length = 2 * K := ⟨l.length / 2, by omega⟩
  obtain ⟨L, hL⟩ : ∃ L, l.length = L := ⟨_, rfl⟩
  have HLL : Hid (l.length = L) := hL
  have hK2 : K ≤ 500000 := by omega
  have hLa : L ≤ 2 * K := by omega
  have hLb : 2 * K ≤ L := by omega
  rw [hL]
  clear hK hsm hev hL
  have hw1 : IntKind.i64.wrap (2 * (n : Int)) = 2 * n := by rw [IntKind.wrap_i64]; omega
  have hrem : (L : Int).tmod 2 = 0 := by rw [Int.tmod_eq_emod_of_nonneg (by omega)]; omega
  have HBO : Hid (∀ k x : Nat, -(k : Int) ≤ balF l k x ∧ balF l k x ≤ (k : Int)) := balF_bound l HOK.out.lo HOK.out.hi
  unfold at0
  go_enter Try.func32, Try.ntmps32
  go_wp2_with (at_make; refine wpList_mk _ rfl _ _ _ rfl 3 i0 (.int .i64 0) 8 Try.underlying23 hi0 hz0 hz1 hz2 rfl _ _ _ _ (2 * n + 1) rfl rfl (by omega) (by omega) (by omega) (by unfold maxLen; omega) H HH.out ?_; intro w1 hr hb hsz)
  have HI : Hid (FI w g1 g2 g3 H hs l0 l (balL (2 * n + 1) l 0) w1) :=
    ⟨hb, H1.out.below hb hg1, H2.out.below hb hg2, H3.out.below hb hg3, by rw [balL_zero]; simpa using hr⟩
  clear hr hb hsz H1 H2 H3
  go_loopw [18] (fun c wr => ∃ k a : Nat, a ≤ L ∧ a ≤ 2 * k ∧ 2 * k ≤ a ∧ c = .int .i64 a ∧ Hid (FI w g1 g2 g3 H hs l0 l (balL (2 * n + 1) l k) wr)) (fun c _ => L - (intOf c).toNat)
  case atStart => exact ⟨0, 0, Nat.zero_le _, Nat.zero_le _, Nat.zero_le _, rfl, HI⟩
  case round =>
    obtain ⟨k, a, ha, hak1, hak2, rfl, HR⟩ := hrel
    clear HI
    by_cases hlt : a < L
    · have hae : a = 2 * k := by omega
      have hal : a < l.length := by rw [HLL.out]; exact hlt
      have hal1 : a + 1 < l.length := by rw [HLL.out]; omega
      have hk1 : 2 * k + 1 < l.length := by omega
      obtain ⟨r, hr⟩ : ∃ r, roomAt l a = r := ⟨_, rfl⟩
      obtain ⟨f, hf⟩ : ∃ f, roomAt l (a + 1) = f := ⟨_, rfl⟩
      obtain ⟨r0, hr0⟩ : ∃ r, roomAt l0 a = r := ⟨_, rfl⟩
      have e1 : wr.cell? ⟨g2, a + 1, none⟩ = some (.int .i8 0) := by
        rw [HR.out.laid HOK.out.len hal1]
        have := HOK.out.odd0 k hk1
        rw [hae, this]
      have e2 : wr.cell? ⟨g3, a, none⟩ = some (.int .i8 r) := by rw [HR.out.after hal, hr]
      have e3 : wr.cell? ⟨g3, a + 1, none⟩ = some (.int .i8 f) := by rw [HR.out.after hal1, hf]
      have e4 : wr.cell? ⟨g2, a, none⟩ = some (.int .i8 r0) := by rw [HR.out.laid HOK.out.len hal, hr0]
      have hr1 : 0 ≤ r := by rw [← hr]; exact HOK.out.lo a
      have hr2 : r ≤ 1 := by rw [← hr]; exact HOK.out.hi a
      have hf1 : 0 ≤ f := by rw [← hf]; exact HOK.out.lo _
      have hf2 : f ≤ 1 := by rw [← hf]; exact HOK.out.hi _
      have hsum : r + f = r0 := by
        have := HOK.out.sum k hk1
        rw [← hae, hr, hf, hr0] at this
        exact this
      have hb1 : decide (r < 0) = false := decide_eq_false (by omega)
      have hb2 : decide (f < 0) = false := decide_eq_false (by omega)
      have hb3 : (r + f != r0) = false := by rw [hsum]; simp
      have HFK : Hid (roomAt l (2 * k + 1) = f) := by show _ = _; rw [← hae]; exact hf
      have HRQ : Hid (∀ q, FI w g1 g2 g3 H hs l0 l (balL (2 * n + 1) l k) (wr.drewN q)) := fun q => HR.out.draws q
      have HSU : Hid (r + f = r0) := hsum
      clear hr hf hr0 HR hsum
      by_cases hf0 : f = 0
      · subst hf0
        have hrr : r0 = r := by have := HSU.out; omega
        subst hrr
        clear hb3
        have HN : Hid (∀ q, FI w g1 g2 g3 H hs l0 l (balL (2 * n + 1) l (k + 1)) (wr.drewN q)) := fun q => by rw [balL_skip _ _ HFK.out]; exact HRQ.out q
        clear HRQ hae
        go_wp2
        go_quiet (fail)
        go_wp2
        go_roundw
        case rel => exact ⟨k + 1, a + 2, by omega, by omega, by omega, by go_num, HN.out _⟩
        case measure => simp [intOf]; omega
      · have hf1' : f = 1 := by omega
        subst hf1'
        have hrr : r0 = r + 1 := by have := HSU.out; omega
        subst hrr
        clear hb3
        obtain ⟨y, hy1, hy2⟩ := HOK.out.tos a hal
        obtain ⟨z, hz1', hz2'⟩ := HOK.out.tos (a + 1) hal1
        have hy1k : toAt l (2 * k) = (y : Int) := by rw [← hae]; exact hy1
        have hz1k : toAt l (2 * k + 1) = (z : Int) := by rw [← hae]; exact hz1'
        have hall := HOK.out.al k y z hk1 (by rw [HFK.out]; omega) hy1k hz1k
        obtain ⟨x, hx1, hx2, hx3⟩ := balL_step (2 * n + 1) l hy1k hz1k hy2 hz2' 1 HFK.out
        have hbz := HBO.out k z
        have hby := HBO.out k y
        have HX1 : Hid (((balL (2 * n + 1) l k).set z (balF l k z - 1))[y]? = some x) := hx1
        have HX2 : Hid (((balL (2 * n + 1) l k).set z (balF l k z - 1)).set y (x + 1) = balL (2 * n + 1) l (k + 1)) := hx2
        have hxb : -(k : Int) - 1 ≤ x ∧ x ≤ (k : Int) := by rcases hx3 with h | h <;> omega
        have HQ : Hid (∀ q, (wr.drewN q).cell? ⟨g1, a, none⟩ = some (.int .i32 (y : Int)) ∧ (wr.drewN q).cell? ⟨g1, a + 1, none⟩ = some (.int .i32 (z : Int)) ∧ (wr.drewN q).cell? ⟨H, z, none⟩ = some (.int .i64 (balF l k z)) ∧ (wr.drewN q).frozen? ⟨H, z, none⟩ = false ∧ (wr.drewN q).cell? ⟨g3, a + 1, none⟩ = some (.int .i8 1)) := fun q =>
          ⟨(HRQ.out q).to HHL.out HHT.out hal hy1, (HRQ.out q).to HHL.out HHT.out hal1 hz1', by rw [(HRQ.out q).m.cell, List.getElem?_map, balL_get _ _ _ hz2']; rfl, (HRQ.out q).m.frozen z, e3⟩
        have HA1 : Hid (allowB n sink blk y = true) := hall.1
        have HA2 : Hid (allowB n sink blk z = true) := hall.2
        obtain ⟨bz, hbz'⟩ : ∃ b, balF l k z = b := ⟨_, rfl⟩
        have HBZ : Hid (balF l k z = bz) := hbz'
        rw [hbz'] at HX1 HX2 HQ hbz
        clear hx1 hx2 hx3 hall hy1 hz1' hy1k hz1k hae hby hbz' hf0
        go_wp2
        go_quiet (fail)
        obtain ⟨e5, e6, e7, e8, e9⟩ := HQ.out nq
        have HR2 : Hid (FI w g1 g2 g3 H hs l0 l (balL (2 * n + 1) l k) (wr.drewN nq)) := HRQ.out nq
        have HBW : Hid (BlkV (wr.drewN nq) (.slice ao bn bc) n blk) := HB.out.later (by rw [HH.out]; exact HR2.out.b)
        clear HQ HRQ e1 e2 e3 e4
        generalize wr.drewN nq = w2 at *
        go_wp2_with fail
        refine (allowed_any y n sink blk _ w2 HBW.out hy2 hn hsk).mono ?_
        rw [HA1.out]
        rintro e w3 ⟨rfl, rfl⟩
        go_wp2_with fail
        refine (allowed_any z n sink blk _ w3 HBW.out hz2' hn hsk).mono ?_
        rw [HA2.out]
        rintro e w4 ⟨rfl, rfl⟩
        have HR3 : Hid (FI w g1 g2 g3 H hs l0 l ((balL (2 * n + 1) l k).set z (bz - 1)) (w4.setCell ⟨H, z, none⟩ (.int .i64 (bz - 1)))) := HR2.out.set hg1 hg2 hg3 z (bz - 1)
        go_upto_region 20 with fail
        generalize w4.setCell ⟨H, z, none⟩ (.int .i64 (bz - 1)) = w5 at *
        have e10 : w5.cell? ⟨H, y, none⟩ = some (.int .i64 x) := by rw [HR3.out.m.cell, List.getElem?_map, HX1.out]; rfl
        have e11 : w5.frozen? ⟨H, y, none⟩ = false := HR3.out.m.frozen y
        have HR4 : Hid (FI w g1 g2 g3 H hs l0 l (balL (2 * n + 1) l (k + 1)) (w5.setCell ⟨H, y, none⟩ (.int .i64 (x + 1)))) := by
          have h := HR3.out.set hg1 hg2 hg3 y (x + 1)
          rw [HX2.out] at h
          exact h
        clear HR3 HR2 HBW HX1 HX2 e5 e6 e7 e8 e9
        go_wp2
        go_roundw
        case rel => exact ⟨k + 1, a + 2, by omega, by omega, by omega, by go_num, HR4⟩
        case measure => simp [intOf]; omega
    · have hke : k = K := by omega
      subst hke
      have HKK : Hid (l.length / 2 = k) := by show _ = _; rw [HLL.out]; omega
      go_wp2
      go_loopw [22] (fun c wr => ∃ x : Nat, x ≤ 2 * n + 1 ∧ c = .int .i64 x ∧ Hid (FI w g1 g2 g3 H hs l0 l (balL (2 * n + 1) l k) wr)) (fun c _ => 2 * n + 1 - (intOf c).toNat)
      case atStart => exact ⟨0, Nat.zero_le _, rfl, HR⟩
      case round =>
        obtain ⟨x, hx, rfl, HR2⟩ := hrel
        clear HR
        by_cases hxl : x < 2 * n + 1
        · have hbx := HOK.out.bal x hxl
          rw [HKK.out] at hbx
          have e1 : wr.cell? ⟨H, x, none⟩ = some (.int .i64 (balF l k x)) := by rw [HR2.out.m.cell, List.getElem?_map, balL_get _ _ _ hxl]; rfl
          rw [hbx] at e1
          clear hbx
          by_cases h1 : x = 2 * n
          · rw [if_pos h1] at e1
            have hb1 : ((x : Int) == 2 * (n : Int)) = true := by rw [beq_iff_eq]; omega
            clear h1
            go_wp2
            go_roundw
            case rel => exact ⟨x + 1, by omega, by go_num, HR2⟩
            case measure => simp [intOf]; omega
          · have hb1 : ((x : Int) == 2 * (n : Int)) = false := by rw [beq_eq_false_iff_ne]; omega
            rw [if_neg h1] at e1
            by_cases h2 : x = sink
            · rw [if_pos h2] at e1
              have hb2 : ((x : Int) == (sink : Int)) = true := by rw [beq_iff_eq]; omega
              clear h1 h2
              go_wp2
              go_roundw
              case rel => exact ⟨x + 1, by omega, by go_num, HR2⟩
              case measure => simp [intOf]; omega
            · rw [if_neg h2] at e1
              have hb2 : ((x : Int) == (sink : Int)) = false := by rw [beq_eq_false_iff_ne]; omega
              clear h1 h2
              go_wp2
              go_roundw
              case rel => exact ⟨x + 1, by omega, by go_num, HR2⟩
              case measure => simp [intOf]; omega
        · have HE : Hid (FvR w (.returned (.bool true)) wr) := ⟨rfl, by rw [HH.out]; exact HR2.out.b⟩
          clear HR2
          go_wp2
          go_ret
          exact HE.out
end Go.Proofs.Qxb6605292a
