/-
  zzMaxFlow (f30).
-/
import Derived.Test.Qxb6605292aMaxM
import Derived.Test.Qxb6605292aReg
import Derived.Test.Qxb6605292aNwL
import Derived.Test.Qxb6605292aAug0
import Derived.Deep.RegionHeld3
import Derived.Deep.LoopGhost
namespace Go.Proofs.Qxb6605292a
open Go.RowKit

/-- What c ways from s to t have done to the arcs. -/
structure FRun (s t : Nat) (l0 l : List Arc) (c : Nat) : Prop where
  len : l.length = l0.length
  tos : ∀ a, toAt l a = toAt l0 a
  rm : Rm l
  res : ∀ (S : Int → Bool) (X : Int → Int → Bool), S s = true → S t = false → (∀ a, a < l0.length → X (toAt l0 (twin a)) (toAt l0 a) = false) → res S X l = res S X l0 - c
theorem FRun.zero {s t : Nat} {l : List Arc} (h : Rm l) : FRun s t l l 0 := ⟨rfl, fun _ => rfl, h, fun S X _ _ _ => by omega⟩
theorem FRun.back {s t : Nat} {l0 l : List Arc} {c : Nat} (h : FRun s t l0 l c) (hev : l0.length % 2 = 0) {vi : List Int} {ns ar : List Nat} (hb : BW l vi t s ns ar) : FRun s t l0 (pushAll l ar) (c + 1) := by
  have hev' : l.length % 2 = 0 := by rw [h.len]; exact hev
  refine ⟨by rw [pushAll_len]; exact h.len, fun a => by rw [toAt_pushAll]; exact h.tos a, ?_, ?_⟩
  · have := hb.rm h.rm hev' ar.length (Nat.le_refl _)
    rw [List.take_length] at this
    exact this
  · intro S X hs ht hX
    have htw : ∀ a, a < l.length → twin a < l.length := fun a ha => by unfold twin; split <;> omega
    rw [res_pushAll S X ar l (fun a ha => ⟨hb.mem ha, htw a (hb.mem ha)⟩), hb.cut S X hs ht (fun a ha => ?_), h.res S X hs ht hX]
    · omega
    · have h1 := hb.mem ha
      rw [h.tos, h.tos]
      refine ⟨hX a (by rw [← h.len]; exact h1), ?_⟩
      have := hX (twin a) (by rw [← h.len]; exact htw a h1)
      rw [twin_twin] at this
      exact this
/-- No room leaves the set od. -/
def Shut (s t : Nat) (l : List Arc) (od : List Nat) : Prop := s ∈ od ∧ t ∉ od ∧ ∀ a x y : Nat, a < l.length → toAt l (twin a) = (x : Int) → toAt l a = (y : Int) → x ∈ od → 0 < roomAt l a → y ∈ od
def MaxR (w : World) (T : Nat → Nat) (H V s t : Nat) (l0 : List Arc) (e : Ending) (w' : World) : Prop := ∃ (c : Nat) (l : List Arc), e = .returned (.int .i64 (c : Int)) ∧ FRun s t l0 l c ∧ ((∃ od, Shut s t l od) ∨ c = V + 1) ∧ Kept (fun b => T b ≠ 0 ∨ H ≤ b) w w'
/-- The pairs fit the arcs. -/
structure PsOk (V : Nat) (ps : List Pr) (l : List Arc) : Prop where
  len : l.length = 2 * ps.length
  tl : ∀ a, a < l.length → toAt l (twin a) = (tailOf ps a : Int)
  tlt : ∀ a, a < l.length → tailOf ps a < V
theorem PsOk.to {V : Nat} {ps : List Pr} {l : List Arc} (h : PsOk V ps l) {a : Nat} (ha : a < l.length) : ∃ y : Nat, toAt l a = (y : Int) ∧ y < V := by
  have hl := h.len
  have ht : twin a < l.length := by unfold twin; split <;> omega
  have := h.tl (twin a) ht
  rw [twin_twin] at this
  exact ⟨_, this, h.tlt _ ht⟩
/-- make([]T, 0, V): an empty row with room. -/
theorem wpList_mk0 {P : Program} (w : World) {ops : Array Oper} {rest : List Oper} {o : Oper} {a : Act} {Q : Exit → Act → World → Prop}
    (hg : o.guard = none) (l c : Operand) (t : TypeId) (hop : o.op = Op.makeSlice t l c)
    (e : TypeId) (i : TypeInfo) (z : Value) (by_ : Nat) (h1 : P.underlying t = some (.slice e)) (h2 : P.info? e = some i) (h3 : i.zero = some z) (h4 : i.size = 1) (h5 : i.bytes = by_) (hz1 : z.cells = #[z])
    (kl kc : IntKind) (L C : Int) (n : Nat) (hl : a.eval l = .int kl L) (hc : a.eval c = .int kc C) (hL : L = 0) (hC : C = (n : Int)) (b2 : by_ * n ≤ 281474976710656) (b3 : n ≤ maxLen)
    (H : Nat) (hH : w.heap.size = H)
    (hK : ∀ w', Rw w' H e (List.replicate n z) → Below H w w' → w'.heap.size = H + 1 → wpList P ops Q rest (a.put o.dst (.slice (some ⟨H, 0, none⟩) 0 n)) w') :
    wpList P ops Q (o :: rest) a w := by
  refine wpList_plain hg fun K hK' => ?_
  subst hL hC hH h5
  have h63' : (n : Int) ≤ 9223372036854775807 := by unfold maxLen at b3; omega
  have hb' : (i.bytes : Int) * (n : Int) ≤ 281474976710656 := by
    have h : ((i.bytes * n : Nat) : Int) ≤ 281474976710656 := by omega
    rwa [Int.natCast_mul] at h
  have hrun := run_make (P := P) w t e i z h1 h2 h3 kl kc 0 n (by omega) (by omega) hb' h63'
  simp only [Int.toNat_natCast, h4, Nat.mul_one, hz1, Int.toNat_zero] at hrun
  unfold Oper.wp
  simp [execOp, hop, hl, hc, hrun, Result.andThen]
  refine hK' _ _ (hK _ ?_ ((Below.refl _ _).alloc (Nat.le_refl _) _) (by simp))
  have e1 : madeCells #[z] n = (List.replicate n z).toArray := by
    rw [← toList_madeCells_one]
  rw [e1]
  exact Rw.new w e _

set_option maxRecDepth 100000 in
set_option maxHeartbeats 8000000 in
theorem maxFlow_any {w : World} {T : Nat → Nat} {Z F V s t : Nat} {ps : List Pr} {l0 : List Arc} (hz : ZL w T Z F V ps l0) (hnew : ∀ b, w.heap.size ≤ b → T b = 0) (hok : PsOk V ps l0) (hrm : Rm l0) (hV : V ≤ 1000) (hs : s < V) (ht : t < V) (hm : ps.length ≤ 500000) :
    Calls Try.prog 30 #[.pointer (some ⟨Z, 0, none⟩), .int .i64 s, .int .i64 t] w fun e w' => MaxR w T w.heap.size V s t l0 e w' := by
  obtain ⟨i0, hi0, hz0, hz1, hz2⟩ := info_parts Try.info21
  obtain ⟨H, hH⟩ := size_name w
  have HH : Hid (w.heap.size = H) := hH
  have HZ : Hid (ZL w T Z F V ps l0) := hz
  have HLOW : Hid (∀ b, T b ≠ 0 → b < H) := fun b hb => by
    rcases Nat.lt_or_ge b H with h | h
    · exact h
    · exact absurd (hnew b (by omega)) hb
  have HOK : Hid (PsOk V ps l0) := hok
  have HRM : Hid (Rm l0) := hrm
  have c0 : w.cell? ⟨Z, 0, none⟩ = some (.int .i64 V) := hz.get.1
  have hlen := hok.len
  rw [hH]
  clear hz hnew hok hrm hH
  have hwV : IntKind.i32.wrap (V : Int) = V := wrap32_nat (by omega)
  have hws : IntKind.i32.wrap (s : Int) = s := wrap32_nat (by omega)
  have hwt : IntKind.i32.wrap (t : Int) = t := wrap32_nat (by omega)
  go_enter Try.func30, Try.ntmps30
  go_wp2_with (first
    | (at_make; refine wpList_mk _ rfl (.tmp 22) _ _ rfl 21 i0 (.int .i32 0) 4 Try.underlying45 hi0 hz0 hz1 hz2 rfl _ _ _ _ V rfl rfl rfl rfl (by omega) (by unfold maxLen; omega) H HH.out ?_; intro w1 hr1 hb1 hs1)
    | (at_make; refine wpList_mk _ rfl (.tmp 24) _ _ rfl 21 i0 (.int .i32 0) 4 Try.underlying45 hi0 hz0 hz1 hz2 rfl _ _ _ _ V rfl rfl rfl rfl (by omega) (by unfold maxLen; omega) (H + 1) hs1 ?_; intro w2 hr2 hb2 hs2)
    | (at_make; refine wpList_mk0 _ rfl _ _ _ rfl 21 i0 (.int .i32 0) 4 Try.underlying45 hi0 hz0 hz1 hz2 rfl _ _ _ _ V rfl rfl rfl rfl (by omega) (by unfold maxLen; omega) (H + 1 + 1) hs2 ?_; intro w3 hr3 hb3 hs3))
  have HI0 : Hid (MI w T H Z F V ps l0 (List.replicate V 0) (List.replicate V 0) (.slice (some ⟨H + 1 + 1, 0, none⟩) 0 V) [] w3 ∧ FRun s t l0 l0 0 ∧ (∀ (x : Nat) (y : Int), (List.replicate V (0 : Int))[x]? = some y → y ≤ 0) ∧ (List.replicate V (0 : Int)).length = V ∧ (List.replicate V (0 : Int)).length = V) := by
    have b1 : Below H w w1 := hb1
    have b2 : Below H w w2 := hb1.trans (hb2.mono (by omega))
    have b3 : Below H w w3 := b2.trans (hb3.mono (by omega))
    refine ⟨⟨?_, HLOW.out, ?_, ?_, ⟨H + 1 + 1, V, rfl, Nat.le_refl _, ?_⟩, (Kept.refl _ _).of_below (by rw [HH.out]; exact b3)⟩, FRun.zero HRM.out, fun x y hx => ?_, by simp, by simp⟩
    · obtain ⟨z, h1, h2⟩ := HZ.out
      exact ⟨z, h1.later (by rw [HH.out]; exact b3), h2⟩
    · have h := (hr1.below hb2 (by omega)).below hb3 (by omega)
      simpa using h
    · have h := hr2.below hb3 (by omega)
      simpa using h
    · refine ⟨by simp, .inr ⟨H + 1 + 1, V, _, rfl, Nat.zero_le _, hr3, Nat.zero_le _, by unfold maxLen; omega, by simp, by simp⟩⟩
    · have := List.eq_of_mem_replicate (List.mem_of_getElem? hx)
      omega
  clear hr1 hr2 hr3 hb1 hb2 hb3 hs1 hs2 hs3 HZ c0
  go_wp2
  go_loopw [10, 11, 12] (fun v10 v11 v12 wr => ∃ (k : Nat) (l : List Arc) (mk vi : List Int) (st : List Nat), k ≤ V + 1 ∧ v11 = .int .i64 k ∧ v12 = .int .i32 ((k : Int) + 1) ∧ Hid (MI w T H Z F V ps l mk vi v10 st wr ∧ FRun s t l0 l k ∧ (∀ (x : Nat) (y : Int), mk[x]? = some y → y ≤ k) ∧ mk.length = V ∧ vi.length = V)) (fun _ b _ _ => V + 1 - (intOf b).toNat)
  case atStart => exact ⟨0, l0, _, _, [], Nat.zero_le _, rfl, rfl, HI0⟩
  case round =>
    obtain ⟨k, l, mk, vi, st, hk, rfl, rfl, HR⟩ := hrel
    clear HI0
    by_cases hkV : k ≤ V
    · obtain ⟨g, c, hv10, _⟩ := HR.out.1.s.form
      have HR1 : Hid (MI w T H Z F V ps l mk vi (.slice (some ⟨g, 0, none⟩) 0 c) [] wr) := by have h := HR.out.1.cut hv10 (Nat.zero_le _); rw [List.take_zero] at h; exact h
      have HFR : Hid (FRun s t l0 l k) := HR.out.2.1
      have HMK : Hid (∀ (x : Nat) (y : Int), mk[x]? = some y → y ≤ k) := HR.out.2.2.1
      have HML : Hid (mk.length = V ∧ vi.length = V) := HR.out.2.2.2
      have hstl : st.length ≤ c := by obtain ⟨g', c', e', h'⟩ := HR.out.1.s.form; rw [hv10] at e'; cases e'; exact h'
      subst hv10
      clear HR
      have ra : wr.ownsRow 0 21 1 (.slice (some ⟨g, 0, none⟩) 0 c) 0 [] := by obtain ⟨_, _, _, _, h⟩ := HR1.out.s; exact h
      have hlk : l.length = 2 * ps.length := by rw [HFR.out.len]; exact hlen
      have HPO : Hid (PsOk V ps l) := ⟨hlk, fun a ha => by rw [HFR.out.tos]; exact HOK.out.tl a (by rw [← HFR.out.len]; exact ha), fun a ha => HOK.out.tlt a (by rw [← HFR.out.len]; exact ha)⟩
      go_upto_region 11 with (at_builtin; refine wpList_append_lies _ rfl _ _ _ rfl 0 21 i0 _ 1 4 Try.underlying45 hi0 hz0 hz1 hz2 rfl (by omega) (.slice (some ⟨g, 0, none⟩) 0 c) 0 [] rfl (ra.alloc _) ⟨wr.heap.size, 0, none⟩ 1 1 [.int .i32 s] rfl rfl (World.news_of_block (cs := #[.int .i32 s]) (t := 21) (fr := (0, 0)) (heap_alloc_new wr _)) (by simp [Value.oneCell']) (by omega) (by unfold maxLen; omega) (by omega) (Nat.zero_le _) (wr.heap.size + 1) (by simp) ?_; intro g3 cap3 x3 hown3 hgrow3 hat3 hlt3)
      have HM2 : Hid (MI w T H Z F V ps l mk vi (.slice (some ⟨g3, 0, none⟩) 1 cap3) [s] x3) := HR1.out.push (y := s) (below_laid wr _) hown3 hgrow3 hat3 (by simp)
      clear hown3 hgrow3 hat3 hlt3 ra HR1
      obtain ⟨um, cm⟩ := HM2.out.m.there (o := s) (by rw [List.length_map, HML.out.1]; exact hs)
      have fm : x3.frozen? ⟨H, s, none⟩ = false := HM2.out.m.frozen s
      have HM3 : Hid (MI w T H Z F V ps l (mk.set s ((k : Int) + 1)) vi (.slice (some ⟨g3, 0, none⟩) 1 cap3) [s] (x3.setCell ⟨H, s, none⟩ (.int .i32 ((k : Int) + 1)))) := HM2.out.setMark s _
      have HD3 : Hid (DI V s t ((k : Int) + 1) l (mk.set s ((k : Int) + 1)) vi [s] [s]) := DI.start l hs HML.out.1 HML.out.2 (fun x y hx => by have := HMK.out x y hx; omega)
      have HB3 : Hid (∀ (x : Nat) (y : Int), (mk.set s ((k : Int) + 1))[x]? = some y → y ≤ (k : Int) + 1) := fun x y hx => by
        by_cases e : s = x
        · subst e
          rw [List.getElem?_set_self (by rw [HML.out.1]; exact hs)] at hx
          injection hx with hx
          omega
        · rw [List.getElem?_set_ne e] at hx
          have := HMK.out x y hx
          omega
      go_upto_region 12 with fail
      generalize x3.setCell ⟨H, s, none⟩ (.int .i32 ((k : Int) + 1)) = w4 at *
      clear cm fm HM2 HMK HML
      have hkw : IntKind.i32.wrap ((k : Int) + 1) = (k : Int) + 1 := wrap_i32_in (by omega) (by omega)
      go_wp2
      go_loopg [10, 13] (2 * (V - 1) + 1) (fun gk v10 v13 wr => ∃ (mk vi : List Int) (od st : List Nat), gk = 2 * (V - od.length) + st.length ∧ v13 = .bool false ∧ Hid (MI w T H Z F V ps l mk vi v10 st wr) ∧ Hid (DI V s t ((k : Int) + 1) l mk vi od st ∧ (∀ (x : Nat) (y : Int), mk[x]? = some y → y ≤ (k : Int) + 1) ∧ (∀ x ∈ od, x ∉ st → Wk l od x 0) ∧ (t ∈ od → t ∈ st)))
      case atStart =>
        refine ⟨_, _, [s], [s], by simp, rfl, HM3, HD3.out, HB3.out, fun x hx hn => absurd hx hn, fun h => h⟩
      case round =>
        obtain ⟨mk2, vi2, od, st2, hgk, rfl, HM, HD⟩ := hrel
        clear HM3 HD3 HB3
        have hdl := HD.out.1.len
        rcases List.eq_nil_or_concat st2 with hst | ⟨st3, x, hst⟩
        · subst hst
          obtain ⟨g5, c5, hv5, _⟩ := HM.out.s.form
          have HEND : Hid (MaxR w T H V s t l0 (.returned (.int .i64 (k : Int))) wr) := by
            refine ⟨k, l, rfl, HFR.out, .inl ⟨od, ?_, fun h => by have := HD.out.2.2.2 h; simp at this, fun a x y ha h1 h2 hx hr => HD.out.2.2.1 x hx (by simp) a y (Nat.zero_le _) ha h1 hr h2⟩, HM.out.k⟩
            exact List.mem_of_getElem? HD.out.1.hd
          have hv6 : u10 = .slice (some ⟨g5, 0, none⟩) 0 c5 := hv5
          subst hv6
          clear HM HD
          go_wp2
          go_ret
          exact HEND.out
        · have hst' : st2 = st3 ++ [x] := by rw [hst]; simp
          subst hst'
          clear hst
          obtain ⟨m, hm3⟩ : ∃ m, st3.length = m := ⟨_, rfl⟩
          obtain ⟨g5, c5, hv5, hc5⟩ := HM.out.s.form
          have hsl : (st3 ++ [x]).length = m + 1 := by simp [hm3]
          rw [hsl] at hv5 hc5 hdl hgk
          have cx : wr.cell? ⟨g5, m, none⟩ = some (.int .i32 (x : Int)) := HM.out.s.cell (by rw [hsl]; exact hv5) (by rw [← hm3]; simp)
          obtain ⟨hdp, hxo, hxs⟩ := HD.out.1.pop
          have hxV : x < V := HD.out.1.lt x hxo
          have HP : Hid (MI w T H Z F V ps l mk2 vi2 (.slice (some ⟨g5, 0, none⟩) m c5) st3 wr) := by
            have h := HM.out.cut (k := m) (by rw [hsl]; exact hv5) (by rw [hsl]; omega)
            rw [← hm3, List.take_left] at h
            rw [← hm3]
            exact h
          have HMB : Hid (∀ (x : Nat) (y : Int), mk2[x]? = some y → y ≤ (k : Int) + 1) := HD.out.2.1
          have HXO : Hid (x ∈ od ∧ x ∉ st3) := ⟨hxo, hxs⟩
          have HDP : Hid (DI V s t ((k : Int) + 1) l mk2 vi2 od st3) := hdp
          have HPR : Hid (∀ y ∈ od, y ≠ x → y ∉ st3 → Wk l od y 0) := fun y hy hyx hys => HD.out.2.2.1 y hy (by simp [hyx, hys])
          have HTD : Hid (t ∈ od → t ≠ x → t ∈ st3) := fun h hx => by have := HD.out.2.2.2 h; simpa [hx] using this
          have HM3' : Hid (st3.length = m) := hm3
          have hgk2 : 2 * (V - od.length) + m < gk := by omega
          have hmV : m ≤ 1000 := by omega
          obtain ⟨_, cF, hfc⟩ := HM.out.z.get
          have cfx := hfc x hxV
          subst hv5
          clear HM HD hdp hxo hxs hm3 hsl hgk hfc
          by_cases hxt : x = t
          · subst hxt
            obtain ⟨i, hi⟩ := List.mem_iff_getElem?.1 HXO.out.1
            obtain ⟨ns, ar, hbw, _⟩ := HDP.out.back i x hi
            have HBW : Hid (BW l vi2 x s ns ar) := hbw
            have HVL2 : Hid (vi2.length = V ∧ mk2.length = V) := ⟨HDP.out.vil, HDP.out.mkl⟩
            obtain ⟨L, hL⟩ : ∃ L, l.length = L := ⟨_, rfl⟩
            have HLL : Hid (l.length = L) := hL
            have hLb : L ≤ 1000000 := by omega
            have HPL : Hid (∀ br, (pushAll l br).length = L) := fun br => by rw [pushAll_len]; exact hL
            have HLP : Hid (L = 2 * ps.length ∧ L = 2 * ps.length) := ⟨by omega, by omega⟩
            clear hi hbw HDP HPR HTD HXO hL hgk2 hdl cfx cF hlk
            go_wp2
            go_loopw [17] (fun v17 wr => ∃ j y : Nat, j ≤ ar.length ∧ v17 = .int .i32 y ∧ Hid (ns[j]? = some y) ∧ Hid (MI w T H Z F V ps (pushAll l (ar.take j)) mk2 vi2 (.slice (some ⟨g5, 0, none⟩) m c5) st3 wr)) (fun b _ => ar.length - ns.idxOf (intOf b).toNat)
            case atStart => exact ⟨0, x, Nat.zero_le _, rfl, HBW.out.hd, HP⟩
            case round =>
              as_aux_lemma =>
                obtain ⟨j, y, hj, rfl, HY, HM⟩ := hrel
                clear HP cx
                by_cases hjl : j < ar.length
                · obtain ⟨a, hak⟩ : ∃ a, ar[j]? = some a := ⟨_, List.getElem?_eq_getElem hjl⟩
                  obtain ⟨u, v, a1, a2, a3, a4, a5, a6, a7⟩ := HBW.out.arc j a hak
                  have hux : y = u := by have h := HY.out; rw [h] at a1; injection a1
                  subst hux
                  have hys : ¬ y = s := fun e => by
                    subst e
                    have := nodup_at HBW.out.nd HY.out HBW.out.last
                    omega
                  have hyb : ((y : Int) != (s : Int)) = true := by rw [bne_iff_ne]; omega
                  have hyV : y < V := by rw [← HVL2.out.1]; exact (List.getElem?_eq_some_iff.1 a3).1
                  have haL : a < L := by rw [← HLL.out]; exact a4
                  have hpL : 0 < L := by omega
                  have hbL : twin a < L := by have := HLP.out.1; unfold twin; split <;> omega
                  have hrmj := HBW.out.rm HFR.out.rm (by rw [HLL.out]; have := HLP.out.1; omega) j hj
                  obtain ⟨lj, hlj⟩ : ∃ lj, pushAll l (ar.take j) = lj := ⟨_, rfl⟩
                  have HLJ : Hid (pushAll l (ar.take j) = lj) := hlj
                  have HJL : Hid (lj.length = L) := by show _ = _; rw [← hlj]; exact HPL.out _
                  rw [hlj] at hrmj HM
                  obtain ⟨g2, c2, g3', c3, g4, c4, _, _, q4, _, _, hcap, hfz, htg, hset⟩ := HM.out.z.rows (by rw [HJL.out]; exact HLP.out.1) (by rw [HJL.out]; exact hpL)
                  rw [HJL.out] at q4 hcap hset
                  obtain ⟨r1, hr1⟩ : ∃ r, roomAt lj a = r := ⟨_, rfl⟩
                  have qc : wr.cell? ⟨g4, a, none⟩ = some (.int .i32 r1) := by rw [hcap a haL, hr1]
                  have qf : wr.frozen? ⟨g4, a, none⟩ = false := hfz a
                  have qv : wr.cell? ⟨H + 1, y, none⟩ = some (.int .i32 (a : Int)) := by rw [HM.out.v.cell, List.getElem?_map, a3]; rfl
                  have hra := hrmj.lo a
                  have hrb := hrmj.hi a
                  rw [hr1] at hra hrb
                  have hwr1 : IntKind.i32.wrap (r1 - 1) = r1 - 1 := wrap_i32_in (by omega) (by omega)
                  have HM1 : Hid (MI w T H Z F V ps (setRm lj a (r1 - 1)) mk2 vi2 (.slice (some ⟨g5, 0, none⟩) m c5) st3 (wr.setCell ⟨g4, a, none⟩ (.int .i32 (r1 - 1))).drew) := (HM.out.setCap htg (hset a (r1 - 1) haL).1).drew
                  obtain ⟨b, hb⟩ : ∃ b, twin a = b := ⟨_, rfl⟩
                  have HB : Hid (twin a = b) := hb
                  have hxo : bits .xor .i32 (a : Int) 1 = (b : Int) := by rw [← hb]; exact bits_twin a (by omega)
                  rw [hb] at hbL
                  obtain ⟨r2, hr2⟩ : ∃ r, roomAt lj b = r := ⟨_, rfl⟩
                  have hr2a := hrmj.lo b
                  have hr2b := hrmj.hi b
                  rw [hr2] at hr2a hr2b
                  have hwr2 : IntKind.i32.wrap (r2 + 1) = r2 + 1 := wrap_i32_in (by omega) (by omega)
                  have HR1' : Hid (roomAt lj a = r1) := hr1
                  have HR2' : Hid (roomAt lj b = r2) := hr2
                  have HAK : Hid (ar[j]? = some a) := hak
                  have HA2 : Hid (ns[j + 1]? = some v) := a2
                  have HA3 : Hid (vi2[y]? = some (a : Int)) := a3
                  have HA6 : Hid (toAt l b = (v : Int)) := by show _ = _; rw [← hb]; exact a6
                  clear a1 a2 a3 a5 a6 a7 hak hys hlj hcap hfz hset hr1 hr2 hb hrmj HM htg
                  go_upto_region 31 with fail
                  refine wp_region_noPanic ?_
                  refine wp_region_T (fun w' => w'.cell? ⟨Z, 4, none⟩ = some (.slice (some ⟨g4, 0, none⟩) L c4) ∧ w'.cell? ⟨H + 1, y, none⟩ = some (.int .i32 (a : Int)) ∧ w'.cell? ⟨g4, a, none⟩ = some (.int .i32 r1))
                    [3, 7, 9] [12] [0, 1, 2, 3, 4, 5, 6, 7, 8, 9, 10, 11, 12] (by kernel_rfl) (by kernel_rfl) rfl (by kernel_rfl) (fun _ _ _ _ _ h => h) ⟨q4, qv, qc⟩ ?_
                  simp only [List.map_cons, List.map_nil, List.getElem?_toArray, List.getElem?_cons_succ, List.getElem?_cons_zero]
                  iterate 3
                    refine wpT_take (v := ?_) (by rfl) (by rfl) ?_ ?_
                    rotate_left 1
                    focus (intro w; go_simp; try with_reducible rfl)
                    simp only [Act.put, List.setIfInBounds_toArray, List.set_cons_zero, List.set_cons_succ]
                  refine wpT_held (v := ?_) (by rfl) (by rfl) (by rfl) ?_ ?_
                  rotate_left 1
                  focus (rintro w ⟨s1, s2, s3⟩; go_simp; try with_reducible rfl)
                  simp only [Act.put, List.setIfInBounds_toArray, List.set_cons_zero, List.set_cons_succ]
                  iterate 3
                    refine wpT_take (v := ?_) (by rfl) (by rfl) ?_ ?_
                    rotate_left 1
                    focus (intro w; go_simp; try with_reducible rfl)
                    simp only [Act.put, List.setIfInBounds_toArray, List.set_cons_zero, List.set_cons_succ]
                  refine wpT_held (v := ?_) (by rfl) (by rfl) (by rfl) ?_ ?_
                  rotate_left 1
                  focus (rintro w ⟨s1, s2, s3⟩; go_simp; try with_reducible rfl)
                  simp only [Act.put, List.setIfInBounds_toArray, List.set_cons_zero, List.set_cons_succ]
                  refine wpT_take (v := ?_) (by rfl) (by rfl) ?_ ?_
                  rotate_left 1
                  focus (intro w; go_simp; try with_reducible rfl)
                  simp only [Act.put, List.setIfInBounds_toArray, List.set_cons_zero, List.set_cons_succ]
                  refine wpT_held (v := ?_) (by rfl) (by rfl) (by rfl) ?_ ?_
                  rotate_left 1
                  focus (rintro w ⟨s1, s2, s3⟩; go_simp; try with_reducible rfl)
                  simp only [Act.put, List.setIfInBounds_toArray, List.set_cons_zero, List.set_cons_succ]
                  iterate 2
                    refine wpT_take (v := ?_) (by rfl) (by rfl) ?_ ?_
                    rotate_left 1
                    focus (intro w; go_simp; try with_reducible rfl)
                    simp only [Act.put, List.setIfInBounds_toArray, List.set_cons_zero, List.set_cons_succ]
                  refine wpT_last (by rfl) (by kernel_rfl) (fun K hK => ?_)
                  go_simp
                  refine hK _ _ ?_
                  clear hK K
                  try simp only [Act.put, List.setIfInBounds_toArray, List.set_cons_zero, List.set_cons_succ]
                  refine wpT_nil ?_
                  refine NoPanic.normal ?_
                  generalize (wr.setCell ⟨g4, a, none⟩ (.int .i32 (r1 - 1))).drew = w5 at *
                  clear q4 qc qf qv
                  have HJ1 : Hid ((setRm lj a (r1 - 1)).length = L) := by show _ = _; rw [setRm_len]; exact HJL.out
                  obtain ⟨_, _, h3, d3, h4, d4, _, _, q4', _, _, hcap, hfz, htg, hset⟩ := HM1.out.z.rows (by rw [HJ1.out]; exact HLP.out.1) (by rw [HJ1.out]; exact hpL)
                  rw [HJ1.out] at q4' hcap hset
                  have qc' : w5.cell? ⟨h4, b, none⟩ = some (.int .i32 r2) := by
                    rw [hcap b hbL, setRm_ne _ _ (fun e => twin_ne a (by rw [HB.out]; exact e.symm)), HR2'.out]
                  have qf' : w5.frozen? ⟨h4, b, none⟩ = false := hfz b
                  have qv' : w5.cell? ⟨H + 1, y, none⟩ = some (.int .i32 (a : Int)) := by rw [HM1.out.v.cell, List.getElem?_map, HA3.out]; rfl
                  have HM2 : Hid (MI w T H Z F V ps (pushAll l (ar.take (j + 1))) mk2 vi2 (.slice (some ⟨g5, 0, none⟩) m c5) st3 (w5.setCell ⟨h4, b, none⟩ (.int .i32 (r2 + 1))).drew) := by
                    have h := (HM1.out.setCap htg (hset b (r2 + 1) hbL).1).drew
                    have e : setRm (setRm lj a (r1 - 1)) b (r2 + 1) = pushAll l (ar.take (j + 1)) := by
                      rw [take_snoc HAK.out, pushAll_snoc, HLJ.out]
                      unfold pushAt
                      rw [HB.out, HR1'.out, HR2'.out]
                    rw [e] at h
                    exact h
                  clear hcap hfz htg hset HM1
                  go_upto_region 32 with fail
                  refine wp_region_noPanic ?_
                  refine wp_region_T (fun w' => w'.cell? ⟨Z, 4, none⟩ = some (.slice (some ⟨h4, 0, none⟩) L d4) ∧ w'.cell? ⟨H + 1, y, none⟩ = some (.int .i32 (a : Int)) ∧ w'.cell? ⟨h4, b, none⟩ = some (.int .i32 r2))
                    [3, 7, 10] [13] [0, 1, 2, 3, 4, 5, 6, 7, 8, 9, 10, 11, 12, 13] (by kernel_rfl) (by kernel_rfl) rfl (by kernel_rfl) (fun _ _ _ _ _ h => h) ⟨q4', qv', qc'⟩ ?_
                  simp only [List.map_cons, List.map_nil, List.getElem?_toArray, List.getElem?_cons_succ, List.getElem?_cons_zero]
                  iterate 3
                    refine wpT_take (v := ?_) (by rfl) (by rfl) ?_ ?_
                    rotate_left 1
                    focus (intro w; go_simp; try with_reducible rfl)
                    simp only [Act.put, List.setIfInBounds_toArray, List.set_cons_zero, List.set_cons_succ]
                  refine wpT_held (v := ?_) (by rfl) (by rfl) (by rfl) ?_ ?_
                  rotate_left 1
                  focus (rintro w ⟨s1, s2, s3⟩; go_simp; try with_reducible rfl)
                  simp only [Act.put, List.setIfInBounds_toArray, List.set_cons_zero, List.set_cons_succ]
                  iterate 3
                    refine wpT_take (v := ?_) (by rfl) (by rfl) ?_ ?_
                    rotate_left 1
                    focus (intro w; go_simp; try with_reducible rfl)
                    simp only [Act.put, List.setIfInBounds_toArray, List.set_cons_zero, List.set_cons_succ]
                  refine wpT_held (v := ?_) (by rfl) (by rfl) (by rfl) ?_ ?_
                  rotate_left 1
                  focus (rintro w ⟨s1, s2, s3⟩; go_simp; try with_reducible rfl)
                  simp only [Act.put, List.setIfInBounds_toArray, List.set_cons_zero, List.set_cons_succ]
                  iterate 2
                    refine wpT_take (v := ?_) (by rfl) (by rfl) ?_ ?_
                    rotate_left 1
                    focus (intro w; go_simp; try with_reducible rfl)
                    simp only [Act.put, List.setIfInBounds_toArray, List.set_cons_zero, List.set_cons_succ]
                  refine wpT_held (v := ?_) (by rfl) (by rfl) (by rfl) ?_ ?_
                  rotate_left 1
                  focus (rintro w ⟨s1, s2, s3⟩; go_simp; try with_reducible rfl)
                  simp only [Act.put, List.setIfInBounds_toArray, List.set_cons_zero, List.set_cons_succ]
                  iterate 2
                    refine wpT_take (v := ?_) (by rfl) (by rfl) ?_ ?_
                    rotate_left 1
                    focus (intro w; go_simp; try with_reducible rfl)
                    simp only [Act.put, List.setIfInBounds_toArray, List.set_cons_zero, List.set_cons_succ]
                  refine wpT_last (by rfl) (by kernel_rfl) (fun K hK => ?_)
                  go_simp
                  refine hK _ _ ?_
                  clear hK K
                  try simp only [Act.put, List.setIfInBounds_toArray, List.set_cons_zero, List.set_cons_succ]
                  refine wpT_nil ?_
                  refine NoPanic.normal ?_
                  generalize (w5.setCell ⟨h4, b, none⟩ (.int .i32 (r2 + 1))).drew = w6 at *
                  clear q4' qc' qf' qv'
                  obtain ⟨_, _, k3, e3, _, _, _, q3, _, _, hto, _⟩ := HM2.out.z.rows (by rw [HPL.out]; exact HLP.out.1) (by rw [HPL.out]; exact hpL)
                  rw [HPL.out] at q3 hto
                  have qt : w6.cell? ⟨k3, b, none⟩ = some (.int .i32 (v : Int)) := by rw [hto b hbL, toAt_pushAll, HA6.out]
                  have qv6 : w6.cell? ⟨H + 1, y, none⟩ = some (.int .i32 (a : Int)) := by rw [HM2.out.v.cell, List.getElem?_map, HA3.out]; rfl
                  have HM3 : Hid (∀ q, MI w T H Z F V ps (pushAll l (ar.take (j + 1))) mk2 vi2 (.slice (some ⟨g5, 0, none⟩) m c5) st3 (w6.drewN q)) := fun q => HM2.out.draws q
                  clear hto HM2
                  go_wp2
                  go_quiet (fail)
                  go_wp2
                  go_roundw
                  case rel => exact ⟨j + 1, v, hjl, rfl, HA2, HM3.out _⟩
                  case measure =>
                    have e1 := idxOf_at HBW.out.nd HY.out
                    have e2 := idxOf_at HBW.out.nd HA2.out
                    simp only [intOf, Int.toNat_natCast]
                    rw [e1, e2]; omega
                · have hje : j = ar.length := by omega
                  subst hje
                  have hys : y = s := by have h := HY.out; rw [HBW.out.last] at h; injection h with h; exact h.symm
                  subst hys
                  have HN : Hid (MI w T H Z F V ps (pushAll l ar) mk2 vi2 (.slice (some ⟨g5, 0, none⟩) m c5) st3 wr ∧ FRun y x l0 (pushAll l ar) (k + 1) ∧ (∀ (x : Nat) (z : Int), mk2[x]? = some z → z ≤ ((k + 1 : Nat) : Int)) ∧ mk2.length = V ∧ vi2.length = V) := by
                    have h := HM.out
                    rw [List.take_length] at h
                    exact ⟨h, HFR.out.back (by rw [HOK.out.len]; omega) HBW.out, fun b z hz => by have := HMB.out b z hz; omega, HVL2.out.2, HVL2.out.1⟩
                  clear HM
                  go_wp2
                  go_roundw
                  case rel => exact ⟨k + 1, _, _, _, _, by omega, by go_num, by go_num, HN⟩
                  case measure => simp [intOf]; omega
          · have hxb : ((x : Int) == (t : Int)) = false := by rw [beq_eq_false_iff_ne]; omega
            have HXT : Hid (¬ x = t) := hxt
            obtain ⟨e0, he0⟩ : ∃ e, lastB ps x (2 * ps.length) = e := ⟨_, rfl⟩
            have HE0 : Hid (lastB ps x (2 * ps.length) = e0) := he0
            rw [he0] at cfx
            clear he0 hxt
            have HL0 : Hid (DI V s t ((k : Int) + 1) l mk2 vi2 od st3 ∧ (∀ (x : Nat) (y : Int), mk2[x]? = some y → y ≤ (k : Int) + 1) ∧ (x ∈ od ∧ x ∉ st3) ∧ (∀ y ∈ od, y ≠ x → y ∉ st3 → Wk l od y 0) ∧ Wk l od x (2 * ps.length) ∧ (t ∈ od → t ≠ x → t ∈ st3) ∧ 2 * (V - od.length) + st3.length < gk) :=
              ⟨HDP.out, HMB.out, HXO.out, HPR.out, fun a y h1 h2 => by omega, HTD.out, by rw [HM3'.out]; exact hgk2⟩
            clear HDP HMB HXO HPR HTD hgk2 hdl
            go_wp2
            go_loopw [10, 15] (fun v10 v15 wr => ∃ (mi : Nat) (mk vi : List Int) (od st : List Nat) (e : Int), mi ≤ 2 * ps.length ∧ v15 = .int .i32 e ∧ -1 ≤ e ∧ e < mi ∧ Hid (lastB ps x mi = e) ∧ Hid (MI w T H Z F V ps l mk vi v10 st wr) ∧ Hid (DI V s t ((k : Int) + 1) l mk vi od st ∧ (∀ (x : Nat) (y : Int), mk[x]? = some y → y ≤ (k : Int) + 1) ∧ (x ∈ od ∧ x ∉ st) ∧ (∀ y ∈ od, y ≠ x → y ∉ st → Wk l od y 0) ∧ Wk l od x mi ∧ (t ∈ od → t ≠ x → t ∈ st) ∧ 2 * (V - od.length) + st.length < gk)) (fun _ b _ => (intOf b + 1).toNat)
            case atStart =>
              have hb := lastB_lt ps x (2 * ps.length)
              rw [HE0.out] at hb
              exact ⟨2 * ps.length, mk2, vi2, od, st3, e0, Nat.le_refl _, rfl, hb.1, hb.2, HE0, HP, HL0⟩
            case round =>
              as_aux_lemma =>
                obtain ⟨mi, mk3, vi3, od3, st4, e, hmi, rfl, he1, he2, HLB, HM, HD⟩ := hrel
                clear HL0 HP HE0 cfx cx HM3'
                have hspec := lastB_spec ps x mi
                rw [HLB.out] at hspec
                rcases hspec with ⟨hem, hnone⟩ | ⟨a, hea, ham, hta, hbtw⟩
                · subst hem
                  have HW0 : Hid (Wk l od3 x 0) := fun a y h1 h2 h3 h4 h5 => by
                    by_cases hma : mi ≤ a
                    · exact HD.out.2.2.2.2.1 a y hma h2 h3 h4 h5
                    · have h6 := HPO.out.tl a h2
                      rw [h3] at h6
                      exact absurd (by omega : tailOf ps a = x) (hnone a (by omega))
                  have HN : Hid (DI V s t ((k : Int) + 1) l mk3 vi3 od3 st4 ∧ (∀ (x : Nat) (y : Int), mk3[x]? = some y → y ≤ (k : Int) + 1) ∧ (∀ x ∈ od3, x ∉ st4 → Wk l od3 x 0) ∧ (t ∈ od3 → t ∈ st4)) := by
                    refine ⟨HD.out.1, HD.out.2.1, fun y hy hys => ?_, fun h => HD.out.2.2.2.2.2.1 h (fun e => HXT.out e.symm)⟩
                    by_cases e : y = x
                    · subst e; exact HW0.out
                    · exact HD.out.2.2.2.1 y hy e hys
                  have hlt := HD.out.2.2.2.2.2.2
                  have HLT : Hid (2 * (V - od3.length) + st4.length < gk) := hlt
                  clear HD hnone hlt HW0
                  go_wp2
                  go_roundg (2 * (V - od3.length) + st4.length)
                  case measure => exact HLT.out
                  case rel => exact ⟨mk3, vi3, od3, st4, rfl, rfl, HM, HN⟩
                · subst hea
                  have hal : a < l.length := by omega
                  have hlp : 0 < l.length := by omega
                  obtain ⟨g2, c2, g3', c3, g4, c4, q2, q3, q4, hn2, hto, hcap, _⟩ := HM.out.z.rows hlk hlp
                  obtain ⟨y, hy1, hyV⟩ := HPO.out.to hal
                  have htw : toAt l (twin a) = (x : Int) := by rw [HPO.out.tl a hal, hta]
                  have e3 : wr.cell? ⟨g3', a, none⟩ = some (.int .i32 (y : Int)) := by rw [hto a hal, hy1]
                  obtain ⟨r, hr⟩ : ∃ r, roomAt l a = r := ⟨_, rfl⟩
                  have e4 : wr.cell? ⟨g4, a, none⟩ = some (.int .i32 r) := by rw [hcap a hal, hr]
                  obtain ⟨en, hen⟩ : ∃ e, lastB ps x a = e := ⟨_, rfl⟩
                  have e2 : wr.cell? ⟨g2, a, none⟩ = some (.int .i32 en) := by rw [hn2 a hal, hta, hen]
                  have hnb := lastB_lt ps x a
                  rw [hen] at hnb
                  have HEN : Hid (lastB ps x a = en) := hen
                  have hmkl := HD.out.1.mkl
                  obtain ⟨v, hv⟩ : ∃ v, mk3[y]? = some v := ⟨_, List.getElem?_eq_getElem (by omega)⟩
                  have em : wr.cell? ⟨H, y, none⟩ = some (.int .i32 v) := by rw [HM.out.m.cell, List.getElem?_map, hv]; rfl
                  have HWK : Hid (∀ od', (∀ z ∈ od3, z ∈ od') → (0 < r → y ∈ od') → Wk l od' x a) := fun od' hsub hyo b z h1 h2 h3 h4 h5 => by
                    by_cases hmb : mi ≤ b
                    · exact hsub z (HD.out.2.2.2.2.1 b z hmb h2 h3 h4 h5)
                    · have h6 := HPO.out.tl b h2
                      rw [h3] at h6
                      by_cases hab : b = a
                      · subst hab
                        rw [hy1] at h5
                        have : z = y := by omega
                        subst this
                        exact hyo (by rw [← hr]; exact h4)
                      · exact absurd (by omega : tailOf ps b = x) (hbtw b (by omega) (by omega))
                  have hr0 : 0 ≤ r := by rw [← hr]; exact HFR.out.rm.lo a
                  have hr1 : r ≤ 1 := by rw [← hr]; exact HFR.out.rm.hi a
                  have HV : Hid (mk3[y]? = some v) := hv
                  have HHR : Hid (roomAt l a = r) := hr
                  have HY1 : Hid (toAt l a = (y : Int)) := hy1
                  have HTW : Hid (toAt l (twin a) = (x : Int)) := htw
                  have hskip : (r ≤ 0 ∨ v = (k : Int) + 1) ∨ (0 < r ∧ ¬ v = (k : Int) + 1) := by omega
                  have HSK : Hid ((r ≤ 0 ∨ v = (k : Int) + 1) → Wk l od3 x a) := fun h => HWK.out od3 (fun _ h => h) (fun hp => by
                    rcases h with h | h
                    · omega
                    · exact (HD.out.1.mark y hyV).1 (by rw [HV.out, h]))
                  clear hn2 hto hcap hy1 htw hr hen hta hbtw hv hmkl
                  rcases hskip with hsk | ⟨hrp, hvn⟩
                  · have HN : Hid (DI V s t ((k : Int) + 1) l mk3 vi3 od3 st4 ∧ (∀ (x : Nat) (y : Int), mk3[x]? = some y → y ≤ (k : Int) + 1) ∧ (x ∈ od3 ∧ x ∉ st4) ∧ (∀ y ∈ od3, y ≠ x → y ∉ st4 → Wk l od3 y 0) ∧ Wk l od3 x a ∧ (t ∈ od3 → t ≠ x → t ∈ st4) ∧ 2 * (V - od3.length) + st4.length < gk) :=
                      ⟨HD.out.1, HD.out.2.1, HD.out.2.2.1, HD.out.2.2.2.1, HSK.out hsk, HD.out.2.2.2.2.2⟩
                    clear HD HSK HWK
                    by_cases hrz : r ≤ 0
                    · have hb1 : decide (0 < r) = false := decide_eq_false (by omega)
                      clear hsk
                      go_wp2
                      go_roundw
                      case rel => exact ⟨a, mk3, vi3, od3, st4, en, by omega, rfl, hnb.1, hnb.2, HEN, HM, HN⟩
                      case measure => simp [intOf]; omega
                    · have hb1 : decide (0 < r) = true := decide_eq_true (by omega)
                      have hve : v = (k : Int) + 1 := by omega
                      subst hve
                      clear hsk
                      go_wp2
                      go_roundw
                      case rel => exact ⟨a, mk3, vi3, od3, st4, en, by omega, rfl, hnb.1, hnb.2, HEN, HM, HN⟩
                      case measure => simp [intOf]; omega
                  · have hb1 : decide (0 < r) = true := decide_eq_true hrp
                    have hb2 : (v != (k : Int) + 1) = true := by rw [bne_iff_ne]; exact hvn
                    have HYN : Hid (¬ mk3[y]? = some ((k : Int) + 1)) := by rw [HV.out]; intro e; injection e with e; exact hvn e
                    have hdl4 := HD.out.1.len
                    have hyod : y ∉ od3 := fun h => HYN.out ((HD.out.1.mark y hyV).2 h)
                    have hxod := HD.out.2.2.1
                    have hyx : y ≠ x := fun e => hyod (by rw [e]; exact hxod.1)
                    have hadd := HD.out.1.add (a := a) hxod.1 hyV HYN.out hal HY1.out HTW.out (by rw [HHR.out]; omega)
                    have hodl : od3.length + 1 ≤ V := by have := hadd.len.1; simp at this; omega
                    have HN : Hid (DI V s t ((k : Int) + 1) l (mk3.set y ((k : Int) + 1)) (vi3.set y (a : Int)) (od3 ++ [y]) (st4 ++ [y]) ∧ (∀ (x : Nat) (z : Int), (mk3.set y ((k : Int) + 1))[x]? = some z → z ≤ (k : Int) + 1) ∧ (x ∈ od3 ++ [y] ∧ x ∉ st4 ++ [y]) ∧ (∀ z ∈ od3 ++ [y], z ≠ x → z ∉ st4 ++ [y] → Wk l (od3 ++ [y]) z 0) ∧ Wk l (od3 ++ [y]) x a ∧ (t ∈ od3 ++ [y] → t ≠ x → t ∈ st4 ++ [y]) ∧ 2 * (V - (od3 ++ [y]).length) + (st4 ++ [y]).length < gk) := by
                      refine ⟨hadd, fun b z hz => ?_, ⟨List.mem_append_left _ hxod.1, fun h => ?_⟩, fun z hz hzx hzs => ?_, HWK.out _ (fun z hz => List.mem_append_left _ hz) (fun _ => by simp), fun h hx => ?_, ?_⟩
                      · by_cases e : y = b
                        · subst e
                          rw [List.getElem?_set_self (by rw [HD.out.1.mkl]; exact hyV)] at hz
                          injection hz with hz
                          omega
                        · rw [List.getElem?_set_ne e] at hz
                          exact HD.out.2.1 b z hz
                      · rcases List.mem_append.1 h with h | h
                        · exact hxod.2 h
                        · rw [List.mem_singleton] at h; exact hyx h.symm
                      · rcases List.mem_append.1 hz with hz | hz
                        · exact (HD.out.2.2.2.1 z hz hzx (fun h => hzs (List.mem_append_left _ h))).grow y
                        · exact absurd (List.mem_append_right _ hz) hzs
                      · rcases List.mem_append.1 h with h | h
                        · exact List.mem_append_left _ (HD.out.2.2.2.2.2.1 h hx)
                        · exact List.mem_append_right _ h
                      · have := HD.out.2.2.2.2.2.2
                        simp only [List.length_append, List.length_singleton]
                        omega
                    have fm : wr.frozen? ⟨H, y, none⟩ = false := HM.out.m.frozen y
                    have HMa : Hid (MI w T H Z F V ps l (mk3.set y ((k : Int) + 1)) vi3 u10 st4 (wr.setCell ⟨H, y, none⟩ (.int .i32 ((k : Int) + 1)))) := HM.out.setMark y _
                    have HVL : Hid (vi3.length = V) := HD.out.1.vil
                    have hsl4 : st4.length ≤ 1000 := by omega
                    clear HD HSK HWK HYN hadd hxod hyx hyod HM
                    go_upto_region 24 with fail
                    generalize wr.setCell ⟨H, y, none⟩ (.int .i32 ((k : Int) + 1)) = wa at *
                    clear e2 e3 e4 em fm q2 q3 q4
                    obtain ⟨uv, cv⟩ := HMa.out.v.there (o := y) (by rw [List.length_map, HVL.out]; exact hyV)
                    have fv : wa.frozen? ⟨H + 1, y, none⟩ = false := HMa.out.v.frozen y
                    have HMb : Hid (MI w T H Z F V ps l (mk3.set y ((k : Int) + 1)) (vi3.set y (a : Int)) u10 st4 (wa.setCell ⟨H + 1, y, none⟩ (.int .i32 (a : Int)))) := HMa.out.setVia y _
                    clear HMa
                    go_upto_region 25 with fail
                    generalize wa.setCell ⟨H + 1, y, none⟩ (.int .i32 (a : Int)) = wb at *
                    clear cv fv
                    obtain ⟨g6, c6, hv6, hc6⟩ := HMb.out.s.form
                    have ra6 : wb.ownsRow 0 21 1 (.slice (some ⟨g6, 0, none⟩) st4.length c6) st4.length (st4.map fun x : Nat => Value.int .i32 (x : Int)) := by obtain ⟨_, _, _, _, h⟩ := HMb.out.s; rw [hv6] at h; exact h
                    subst hv6
                    go_upto_region 20 with (at_builtin; refine wpList_append_lies _ rfl _ _ _ rfl 0 21 i0 _ 1 4 Try.underlying45 hi0 hz0 hz1 hz2 rfl (by omega) (.slice (some ⟨g6, 0, none⟩) st4.length c6) st4.length (st4.map fun x : Nat => Value.int .i32 (x : Int)) rfl (ra6.alloc _) ⟨wb.heap.size, 0, none⟩ 1 1 [.int .i32 (y : Int)] rfl rfl (World.news_of_block (cs := #[.int .i32 (y : Int)]) (t := 21) (fr := (0, 0)) (heap_alloc_new wb _)) (by simp [Value.oneCell']) (by omega) (by unfold maxLen; omega) (by omega) (Nat.zero_le _) (wb.heap.size + 1) (by simp) ?_; intro g7 cap7 x7 hown7 hgrow7 hat7 hlt7)
                    have HMc : Hid (MI w T H Z F V ps l (mk3.set y ((k : Int) + 1)) (vi3.set y (a : Int)) (.slice (some ⟨g7, 0, none⟩) (st4.length + 1) cap7) (st4 ++ [y]) x7) := HMb.out.push (below_laid wb _) hown7 hgrow7 hat7 (by simp)
                    clear hown7 hgrow7 hat7 hlt7 ra6 HMb
                    obtain ⟨h2, d2, h3, d3, h4, d4, p2, _, _, hn2, _⟩ := HMc.out.z.rows hlk hlp
                    have e2' : x7.cell? ⟨h2, a, none⟩ = some (.int .i32 en) := by rw [hn2 a hal, ← HEN.out]; congr 2; have := HPO.out.tl a hal; rw [HTW.out] at this; congr 1; omega
                    clear hn2
                    go_wp2
                    go_roundw
                    case rel => exact ⟨a, _, _, _, _, en, by omega, rfl, hnb.1, hnb.2, HEN, HMc, HN⟩
                    case measure => simp [intOf]; omega
    · have HEND : Hid (MaxR w T H V s t l0 (.returned (.int .i64 (k : Int))) wr) := ⟨k, l, rfl, HR.out.2.1, .inr (by omega), HR.out.1.k⟩
      have hkw : IntKind.i32.wrap ((V : Int) + 1) = (V : Int) + 1 := wrap_i32_in (by omega) (by omega)
      clear HR
      go_wp2
      go_ret
      exact HEND.out
end Go.Proofs.Qxb6605292a
