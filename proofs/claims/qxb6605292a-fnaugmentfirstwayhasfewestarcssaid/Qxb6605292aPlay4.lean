/-
  The finder in play for the law on the first way: one search, its number of arcs.
-/
import Derived.Test.Qxb6605292aEnd4
import Derived.Test.Qxb6605292aAugF
namespace Go.Proofs.Qxb6605292a
open Go.RowKit

/-- The distances of a network whose arcs with room are l's, but the sink's own. -/
def DistIs (n sink : Nat) (l : List Arc) (P : Int → Prop) : Prop := ∀ (V : Nat) (m : List Arc) (ds : List Int), (∀ x y, Ed m x y ↔ Ed l x y ∧ ¬ (x = 2 * n ∧ y = sink)) → Lev V (2 * n) m ds → P (dAt ds sink)
def AugD (w : World) (T : Nat → Nat) (lk : Bool) (rows : List (List Int)) (s0 : FV) (n sink : Nat) (l0 : List Arc) (e : Ending) (w' : World) : Prop :=
  ∃ ok l' ts', e = .returned (.bool ok) ∧ Play w T lk rows (fun s => Pl s0 s 1 ∧ s.arcs = l' ∧ s.touched = ts') w' ∧
    ((ok = true ∧ Run n sink l0 l' ts' 1 ∧ ∃ d : Nat, ts'.length = 2 * d ∧ oddSum l' (l0.length / 2) = d ∧ DistIs n sink l0 (fun z => z = d)) ∨ (ok = false ∧ l' = l0 ∧ ts' = [] ∧ DistIs n sink l0 (fun z => z < 0)))
theorem Play.augD {w wr : World} {T : Nat → Nat} {lk : Bool} {rows : List (List Int)} {s0 : FV} {n sink : Nat} {O S : List Bool} {reach : Nat → List Int} {l0 : List Arc} (h : Play w T lk rows (fun s => Pl s0 s 0 ∧ s.arcs = l0 ∧ s.touched = []) wr) (ho : Opd n O S reach n l0) (hn : s0.n = n) (hn2 : n ≤ 256) (hs : sink < 2 * n) (hso : SrcOnly n l0 s0.source) :
    Calls Try.prog 21 #[.pointer (some ⟨s0.F, 0, none⟩), .int .i64 sink] wr fun e w' => AugD w T lk rows s0 n sink l0 e w' := by
  obtain ⟨T', s, hg, st, hp, rfl, htn⟩ := h
  have hrm := ho.rz.rm
  have h1 := hp.w1
  have h2 := hp.tl
  have hnn : s.n = n := by rw [hp.n, hn]
  have c' := augment_few hg.fin sink (by rw [hnn]; exact hn2) (by rw [hnn]; exact hs) hp.nw hrm hp.w0 (by omega) hp.sn (by omega)
  rw [hp.F] at c'
  refine zzaugment_any (c'.mono ?_)
  rintro e w' ⟨ok, T2, s', rfl, hf, st2, hq⟩
  obtain ⟨q1, q2⟩ := hp.aug (by rw [hnn]; exact hn2) hrm hq.plain
  refine ⟨⟨ok, rfl⟩, ok, s'.arcs, s'.touched, rfl, Play.step hg st hf st2 (by rw [q1.G, hp.G]) (by rw [q1.nb, hp.nb]) (by rw [q1.n, hp.n]) ⟨q1, rfl, rfl⟩, ?_⟩
  obtain ⟨sn, vi, vq, q, par, _, hq⟩ := hq
  rw [hnn] at hq
  have hso' : SrcOnly n s.arcs s.source := by rw [hp.source]; exact hso
  have hlen := ho.len
  rcases hq with ⟨rfl, rfl, hb, hd⟩ | ⟨rfl, hfo, vt, ns, ar, rfl, hw⟩
  · exact .inr ⟨rfl, rfl, htn, fun V m ds hm hl => few_false hb hd hso' hrm hm hl⟩
  · have hr := (Run.zero (n := n) (sink := sink) hrm).way (by omega) hfo.found hw
    refine .inl ⟨rfl, ?_, ar.length, ?_, ?_, fun V m ds hm hl => few_true hfo hw hso' hrm hm hl⟩
    · have e : s.touched ++ ar.flatMap (fun a : Nat => [(a : Int), (twin a : Int)]) = [] ++ ar.flatMap (fun a : Nat => [(a : Int), (twin a : Int)]) := by rw [htn]
      show Run n sink s.arcs (pushAll s.arcs ar) (s.touched ++ ar.flatMap (fun a : Nat => [(a : Int), (twin a : Int)])) 1
      rw [e]
      exact hr
    · show (s.touched ++ ar.flatMap (fun a : Nat => [(a : Int), (twin a : Int)])).length = _
      rw [htn, List.nil_append, touch_len]
    · show oddSum (pushAll s.arcs ar) _ = _
      have e : s.arcs.length / 2 = (finPairs O reach n).length := by omega
      rw [e]
      exact oddSum_way ho hw
theorem pl_new2 {s : FV} {O : List Bool} {reach : Nat → List Int} (hnet : (s.nodes, s.arcs) = netOf (2 * s.n + 1) (finPairs O reach s.n))
    (hr : ∀ v, v < s.n → ∀ z ∈ reach v, 0 ≤ z ∧ z < s.n) (hb : (finPairs O reach s.n).length ≤ 400000) (hsrc : ∀ v, v < s.n → isOut O v = false → s.source[v]? = some ((2 * ((linkPairs O reach s.n).length + (srcPairs O s.n v).length) : Nat) : Int))
    (ht : s.touched = []) (hw : s.walk = 0) (hse : ∀ x : Nat, ∀ y, s.seen[x]? = some y → y ≤ 0) : Pl s s 0 := by
  have e1 : s.nodes = (netOf (2 * s.n + 1) (finPairs O reach s.n)).1 := by rw [← hnet]
  have e2 : s.arcs = (netOf (2 * s.n + 1) (finPairs O reach s.n)).2 := by rw [← hnet]
  refine ⟨rfl, rfl, rfl, rfl, rfl, rfl, rfl, ?_, by omega, by omega, ?_, by rw [ht]; exact Nat.zero_le _⟩
  · rw [e1, e2]; exact nw_of_net s.n O reach s.source hr hb hsrc
  · rw [hw]; exact hse
/-- The same play, told from here. -/
theorem Play.rebase2 {w wr : World} {T : Nat → Nat} {lk : Bool} {rows : List (List Int)} {P : FV → Prop} (h : Play w T lk rows P wr) : ∃ T', (∀ w', Below wr.heap.size wr w' → Play w' T' lk rows P w') ∧ (∀ b, wr.heap.size ≤ b → T' b = 0) ∧ (∀ b, b < w.heap.size → T' b = T b) := by
  obtain ⟨T', s, hg, st, hp⟩ := h
  exact ⟨T', fun w' hb => ⟨T', s, hg.step (Step.later (Step.refl finT wr T') hb) finT0 (hg.fin.later hb) rfl rfl rfl, Step.refl _ _ _, hp⟩, hg.fin.own.new, st.tags⟩
theorem Play.fin2 {w wr : World} {T : Nat → Nat} {lk : Bool} {rows : List (List Int)} {P : FV → Prop} (h : Play w T lk rows P wr) : ∃ T' s, FinAt wr T' s ∧ P s := by
  obtain ⟨T', s, hg, st, hp⟩ := h
  exact ⟨T', s, hg.fin, hp⟩

end Go.Proofs.Qxb6605292a
