/-
  The finder in play for the laws on the cheapest ways: opening, blocking, ZZAugmentCheapest (f37).
-/
import Derived.Test.Qxb6605292aCnt
import Derived.Test.Qxb6605292aAugC
namespace Go.Proofs.Qxb6605292a
open Go.RowKit

/-- ZZAugmentCheapest passes on. -/
theorem zzaugmentC_any {F : Nat} {k : Int} {w : World} {R : Ending → World → Prop} (h : Calls Try.prog 56 #[.pointer (some ⟨F, 0, none⟩), .int .i64 k] w fun e w' => (∃ b, e = .returned (.bool b)) ∧ R e w') :
    Calls Try.prog 37 #[.pointer (some ⟨F, 0, none⟩), .int .i64 k] w R := by
  have H : Hid (Calls Try.prog 56 #[.pointer (some ⟨F, 0, none⟩), .int .i64 k] w fun e w' => (∃ b, e = .returned (.bool b)) ∧ R e w') := h
  clear h
  go_enter Try.func37, Try.ntmps37
  go_wp2_with fail
  refine H.out.mono ?_
  rintro e w' ⟨⟨b, rfl⟩, hr⟩
  have HR : Hid (R (.returned (.bool b)) w') := hr
  clear hr H
  go_wp2
  exact HR.out
/-- What one search says, plainly. -/
def SpR (n sink : Nat) (bl : Option (List Bool)) (l : List Arc) (pt : Nat → Int) (ts : List Int) (l' : List Arc) (ts' : List Int) (ok : Bool) : Prop :=
  ∃ (W : Int) (sn vi ds qd : List Int) (q od : List Nat) (tm : Nat → Nat) (k : Nat), SI n sink bl W l pt sn vi ds qd q od tm k q.length NoEx ∧
    ((ok = false ∧ sink ∉ od ∧ l' = l ∧ ts' = ts) ∨
     (ok = true ∧ sink ∈ od ∧ ∃ ns ar, l' = pushAll l ar ∧ ts' = ts ++ (ar.flatMap fun a : Nat => [(a : Int), (twin a : Int)]) ∧ Wy n sink l pt vi ds od ns ar))
structure PlC (s0 s : FV) (k : Nat) (vb : Value) : Prop where
  pl : Pl s0 s k
  qd : SnB s.walk s.queued
  vb : s.vBlocked = vb
theorem PlC.aug {s0 s s' : FV} {k sink : Nat} {vb : Value} {bl : Option (List Bool)} {pt : Nat → Int} {ok : Bool} (h : PlC s0 s k vb) (hn : s.n ≤ 256) (hp : AugCP s sink bl pt s' ok) : PlC s0 s' (k + 1) vb ∧ SpR s.n sink bl s.arcs pt s.touched s'.arcs s'.touched ok := by
  obtain ⟨sn, vi, ds, qd, vq, q, od, tm, k', hsn, hqd, hsi, hp⟩ := hp
  have h0 := h.pl.w0
  have h1 := h.pl.w1
  have h2 := h.pl.tl
  rcases hp with ⟨rfl, hno, rfl⟩ | ⟨rfl, hin, vt, ns, ar, rfl, hw⟩
  · refine ⟨⟨⟨h.pl.G, h.pl.n, h.pl.F, h.pl.nb, h.pl.nodes, h.pl.source, h.pl.len, h.pl.nw, ?_, ?_, hsn, Nat.le_trans h2 (Nat.mul_le_mul_right 1100 (Nat.le_succ k))⟩, hqd, h.vb⟩, s.walk + 1, sn, vi, ds, qd, q, od, tm, k', hsi, .inl ⟨rfl, hno, rfl, rfl⟩⟩
    · show 0 ≤ s.walk + 1; omega
    · show s.walk + 1 ≤ ((k + 1 : Nat) : Int); omega
  · have hns : ns.length ≤ 2 * s.n + 1 := nodup_len hw.bw.nd (fun z hz => hsi.lt z (hw.nsod z hz).1)
    have hal := hw.bw.len
    refine ⟨⟨⟨h.pl.G, h.pl.n, h.pl.F, h.pl.nb, h.pl.nodes, h.pl.source, ?_, h.pl.nw.pushAll ar, ?_, ?_, hsn, ?_⟩, hqd, h.vb⟩, s.walk + 1, sn, vi, ds, qd, q, od, tm, k', hsi, .inr ⟨rfl, hin, ns, ar, rfl, rfl, hw⟩⟩
    · show (pushAll s.arcs ar).length = _
      rw [pushAll_len]; exact h.pl.len
    · show 0 ≤ s.walk + 1; omega
    · show s.walk + 1 ≤ ((k + 1 : Nat) : Int); omega
    · show (s.touched ++ _).length ≤ _
      rw [List.length_append, touch_len, Nat.add_mul]; omega
theorem augC_fin {t : Nat} (h : augCT t) : finT t := by
  intro e
  subst e
  exact augCT0 h
section
variable {w wr : World} {T : Nat → Nat} {lk : Bool} {rows : List (List Int)}
theorem Play.stepC {s' : FV} {T' T2 : Nat → Nat} {s : FV} {w2 : World} {Q : FV → Prop} (hg : Gs wr T' s lk rows) (st : Step finT w T wr T') (hf : FinAt w2 T2 s') (st2 : Step augCT wr T' w2 T2) (e1 : s'.G = s.G) (e2 : s'.nb = s.nb) (e3 : s'.n = s.n) (hq : Q s') : Play w T lk rows Q w2 :=
  ⟨T2, s', hg.step st2 augCT0 hf e1 e2 e3, st.trans (st2.mono fun _ h => augC_fin h), hq⟩
/-- The finder while its sources are being opened. -/
structure OpC (n : Nat) (O S : List Bool) (reach : Nat → List Int) (s0 : FV) (v : Nat) (s : FV) : Prop where
  pl : Pl s0 s 0
  od : Opd n O S reach v s.arcs
  tc : s.touched = []
  qd : SnB s.walk s.queued
  cs : ∀ a, costAt s.arcs a = costAt (netOf (2 * n + 1) (finPairs O reach n)).2 a
theorem Play.openC {s0 : FV} {n : Nat} {O S : List Bool} {reach : Nat → List Int} {v : Nat} (h : Play w T lk rows (OpC n O S reach s0 v) wr) (hn : s0.n = n) (hv : v < n) (ho : isOut O v = false) (hS : S.getD v false = true) (hs : s0.source[v]? = some ((srcI O reach n v : Nat) : Int)) :
    Calls Try.prog 20 #[.pointer (some ⟨s0.F, 0, none⟩), .int .i64 v] wr fun e w' => OpenedR w T lk rows (OpC n O S reach s0 (v + 1)) e w' := by
  obtain ⟨T', s, hg, st, hp⟩ := h
  have hi := srcI_to hp.od hv ho
  have c := openSource_any hg.fin v (srcI O reach n v) (by rw [hp.pl.n, hn]; exact hv) (by rw [hp.pl.source]; exact hs) hi.1
  rw [hp.pl.F] at c
  refine c.mono ?_
  rintro e w' ⟨rfl, hf, st2⟩
  exact ⟨rfl, Play.step hg st hf st2 rfl rfl rfl ⟨hp.pl.open, hp.od.open hv ho hS, hp.tc, hp.qd, fun a => by
    show costAt (setRm s.arcs _ 1) a = _
    rw [costAt_setRm]; exact hp.cs a⟩⟩
theorem Play.blockC {s0 : FV} {n : Nat} {O S : List Bool} {reach : Nat → List Int} {v : Nat} {l0 : List Arc} (h : Play w T lk rows (fun s => OpC n O S reach s0 v s ∧ s.arcs = l0) wr) (ao : Option Addr) (m c : Nat) :
    Calls Try.prog 22 #[.pointer (some ⟨s0.F, 0, none⟩), .slice ao m c] wr fun e w' => OpenedR w T lk rows (fun s => PlC s0 s 0 (.slice ao m c) ∧ s.arcs = l0 ∧ s.touched = []) e w' := by
  obtain ⟨T', s, hg, st, hp, ha⟩ := h
  have k := setBlocked_any hg.fin ao m c
  rw [hp.pl.F] at k
  refine k.mono ?_
  rintro e w' ⟨rfl, hf, st2⟩
  exact ⟨rfl, Play.step hg st hf st2 rfl rfl rfl ⟨⟨⟨hp.pl.G, hp.pl.n, hp.pl.F, hp.pl.nb, hp.pl.nodes, hp.pl.source, hp.pl.len, hp.pl.nw, hp.pl.w0, hp.pl.w1, hp.pl.sn, hp.pl.tl⟩, hp.qd, rfl⟩, ha, hp.tc⟩⟩
def AugX (w : World) (T : Nat → Nat) (lk : Bool) (rows : List (List Int)) (s0 : FV) (k n sink : Nat) (bl : Option (List Bool)) (vb : Value) (l : List Arc) (pt : Nat → Int) (ts : List Int) (e : Ending) (w' : World) : Prop :=
  ∃ ok l' ts', e = .returned (.bool ok) ∧ Play w T lk rows (fun s => PlC s0 s (k + 1) vb ∧ s.arcs = l' ∧ s.touched = ts') w' ∧ SpR n sink bl l pt ts l' ts' ok
theorem Play.augX {s0 : FV} {k n sink : Nat} {bl : Option (List Bool)} {vb : Value} {l : List Arc} {pt : Nat → Int} {ts : List Int} (h : Play w T lk rows (fun s => PlC s0 s k vb ∧ s.arcs = l ∧ s.touched = ts) wr) (hrm : Rm l) (hC : Cst n l) (hP : Pot n sink bl l pt) (hb : BlkS w T vb n bl) (hn : s0.n = n) (hn2 : n ≤ 256) (hs : sink < 2 * n) (hk : k ≤ 500) :
    Calls Try.prog 37 #[.pointer (some ⟨s0.F, 0, none⟩), .int .i64 sink] wr fun e w' => AugX w T lk rows s0 k n sink bl vb l pt ts e w' := by
  obtain ⟨T', s, hg, st, hp, rfl, rfl⟩ := h
  have h1 := hp.pl.w1
  have h2 := hp.pl.tl
  have hnn : s.n = n := by rw [hp.pl.n, hn]
  have hb2 := hb.step st finT0
  subst hnn
  have c' := augmentC_any (bl := bl) (pt := pt) hg.fin sink hn2 hs hp.pl.nw hrm hC hP (by rw [hp.vb]; exact hb2) hp.pl.w0 (by omega) hp.pl.sn hp.qd (by omega)
  rw [hp.pl.F] at c'
  refine zzaugmentC_any (c'.mono ?_)
  rintro e w' ⟨ok, T2, s', rfl, hf, st2, hq⟩
  obtain ⟨q1, q2⟩ := hp.aug hn2 hq
  exact ⟨⟨ok, rfl⟩, ok, s'.arcs, s'.touched, rfl, Play.stepC hg st hf st2 (by rw [q1.pl.G, hp.pl.G]) (by rw [q1.pl.nb, hp.pl.nb]) (by rw [q1.pl.n, hp.pl.n]) ⟨q1, rfl, rfl⟩, q2⟩
end
/-- One more search on a run. -/
theorem SpR.run {n sink c : Nat} {bl : Option (List Bool)} {l0 l l' : List Arc} {pt : Nat → Int} {ts ts' : List Int} {ok : Bool} (h : SpR n sink bl l pt ts l' ts' ok) (hr : RunX n sink bl l0 l ts c) (hev : l0.length % 2 = 0) (hC : Cst n l) (hP : Pot n sink bl l pt) (htos : ∀ a, a < l0.length → ∃ y : Nat, toAt l0 a = (y : Int) ∧ y < 2 * n + 1) :
    (ok = true ∧ RunX n sink bl l0 l' ts' (c + 1) ∧ Cst n l' ∧ ∃ pt', Pot n sink bl l' pt') ∨ (ok = false ∧ l' = l ∧ ts' = ts ∧ RefX n sink bl l) := by
  obtain ⟨W, sn, vi, ds, qd, q, od, tm, k, hsi, hh⟩ := h
  rcases hh with ⟨rfl, hno, rfl, rfl⟩ | ⟨rfl, hin, ns, ar, rfl, rfl, hw⟩
  · refine .inr ⟨rfl, rfl, rfl, (fun z => !outOf od z), hsi.refuse hno (fun a ha => ?_)⟩
    have hl := hr.len
    have hat : twin a < l0.length := by unfold twin; split <;> omega
    obtain ⟨y, hy, _⟩ := htos a (by omega)
    obtain ⟨x, hx, _⟩ := htos (twin a) hat
    exact ⟨x, y, by rw [hr.tos]; exact hx, by rw [hr.tos]; exact hy⟩
  · refine .inl ⟨rfl, hr.way hev hw.bw (fun a ha => ?_), hC.pushAll ar, _, hsi.potAll hin hC hP hw⟩
    obtain ⟨u, z, a1, a2, a3, a4, _⟩ := hw.arcs a ha
    exact ⟨z, u, a1, a2, hsi.al z (hw.nsod z a3).1, hsi.al u (hw.nsod u a4).1⟩
theorem pl_new3 {s : FV} {O : List Bool} {reach : Nat → List Int} (hnet : (s.nodes, s.arcs) = netOf (2 * s.n + 1) (finPairs O reach s.n))
    (hr : ∀ v, v < s.n → ∀ z ∈ reach v, 0 ≤ z ∧ z < s.n) (hb : (finPairs O reach s.n).length ≤ 400000) (hsrc : ∀ v, v < s.n → isOut O v = false → s.source[v]? = some ((2 * ((linkPairs O reach s.n).length + (srcPairs O s.n v).length) : Nat) : Int))
    (ht : s.touched = []) (hw : s.walk = 0) (hse : ∀ x : Nat, ∀ y, s.seen[x]? = some y → y ≤ 0) : Pl s s 0 := by
  have e1 : s.nodes = (netOf (2 * s.n + 1) (finPairs O reach s.n)).1 := by rw [← hnet]
  have e2 : s.arcs = (netOf (2 * s.n + 1) (finPairs O reach s.n)).2 := by rw [← hnet]
  refine ⟨rfl, rfl, rfl, rfl, rfl, rfl, rfl, ?_, by omega, by omega, ?_, by rw [ht]; exact Nat.zero_le _⟩
  · rw [e1, e2]; exact nw_of_net s.n O reach s.source hr hb hsrc
  · rw [hw]; exact hse
/-- The same play, told from here. -/
theorem Play.rebase3 {w wr : World} {T : Nat → Nat} {lk : Bool} {rows : List (List Int)} {P : FV → Prop} (h : Play w T lk rows P wr) : ∃ T', (∀ w', Below wr.heap.size wr w' → Play w' T' lk rows P w') ∧ (∀ b, wr.heap.size ≤ b → T' b = 0) ∧ (∀ b, b < w.heap.size → T' b = T b) := by
  obtain ⟨T', s, hg, st, hp⟩ := h
  exact ⟨T', fun w' hb => ⟨T', s, hg.step (Step.later (Step.refl finT wr T') hb) finT0 (hg.fin.later hb) rfl rfl rfl, Step.refl _ _ _, hp⟩, hg.fin.own.new, st.tags⟩
theorem Play.fin3 {w wr : World} {T : Nat → Nat} {lk : Bool} {rows : List (List Int)} {P : FV → Prop} (h : Play w T lk rows P wr) : ∃ T' s, FinAt wr T' s ∧ P s := by
  obtain ⟨T', s, hg, st, hp⟩ := h
  exact ⟨T', s, hg.fin, hp⟩
end Go.Proofs.Qxb6605292a
