/-
  finder (f41): what its statements do to the finder, over the part that they change ('FM').
-/
import Derived.Test.Qxb6605292aFinA
import Derived.Test.Qxb6605292aNet
namespace Go.Proofs.Qxb6605292a
open Go.RowKit

structure FM where
  vNodes : List Value
  nodes : List (List Int)
  vArcs : Value
  arcs : List Arc
  out : List Bool
  source : List Int
  vTouched : Value
  touched : List Int
  vBlocked : Value
  hasE : Bool
  bE : Nat
def FV.put (s : FV) (m : FM) : FV := { s with vNodes := m.vNodes, nodes := m.nodes, vArcs := m.vArcs, arcs := m.arcs, out := m.out, source := m.source, vTouched := m.vTouched, touched := m.touched, vBlocked := m.vBlocked, hasE := m.hasE, bE := m.bE }
def FV.part (s : FV) : FM := ⟨s.vNodes, s.nodes, s.vArcs, s.arcs, s.out, s.source, s.vTouched, s.touched, s.vBlocked, s.hasE, s.bE⟩
theorem FV.put_part (s : FV) : s.put s.part = s := rfl

/-- The finder at its part m; only tagged blocks have been touched since w. -/
def FinS (w : World) (T : Nat → Nat) (lk : Bool) (rows : List (List Int)) (s : FV) (m : FM) (wr : World) : Prop := ∃ T', Gs wr T' (s.put m) lk rows ∧ Step finT w T wr T'
section
variable {w wr : World} {T : Nat → Nat} {lk : Bool} {rows : List (List Int)} {s : FV} {m : FM}

theorem finT0 : ¬ finT 0 := fun h => h rfl
theorem FinS.fin (h : FinS w T lk rows s m wr) : ∃ T', FinAt wr T' (s.put m) := by obtain ⟨T', hg, _⟩ := h; exact ⟨T', hg.fin⟩
theorem FinS.len (h : FinS w T lk rows s m wr) : (s.put m).Len := by obtain ⟨T', hg, _⟩ := h; exact hg.fin.len
theorem FinS.later {w' : World} (h : FinS w T lk rows s m wr) (hb : Below wr.heap.size wr w') : FinS w T lk rows s m w' := by
  obtain ⟨T', hg, st⟩ := h
  exact ⟨T', hg.step (Step.later (Step.refl finT wr T') hb) finT0 (hg.fin.later hb) rfl rfl rfl, st.later hb⟩
theorem FinS.drew (h : FinS w T lk rows s m wr) : FinS w T lk rows s m wr.drew := h.later ((Below.refl _ _).drew)
/-- A store into a row of fixed size. -/
theorem FinS.store {m' : FM} {t b o : Nat} {e : TypeId} {l : List Value} {v : Value} (h : FinS w T lk rows s m wr) (ht : (s.put m).A t = some (b, e, l)) (h0 : t ≠ 0) (hf : ∀ T', FinAt wr T' (s.put m) → FinAt (wr.setCell ⟨b, o, none⟩ v) T' (s.put m')) :
    FinS w T lk rows s m' (wr.setCell ⟨b, o, none⟩ v) := by
  obtain ⟨T', hg, st⟩ := h
  have hm : finT (T' b) := by rw [(hg.fin.own.arr _ _ _ _ ht).1]; exact h0
  exact ⟨T', hg.step ((Step.refl finT wr T').set hm v) finT0 (hf T' hg.fin) rfl rfl rfl, st.set hm v⟩
theorem FinS.setOut (h : FinS w T lk rows s m wr) (i : Nat) (x : Bool) : FinS w T lk rows s { m with out := m.out.set i x } (wr.setCell ⟨s.bOut, i, none⟩ (.bool x)) :=
  h.store (t := 2) (b := s.bOut) (e := 4) (l := m.out.map .bool) rfl (by omega) (fun _ hf => hf.setOut i x)
theorem FinS.setSource (h : FinS w T lk rows s m wr) (i : Nat) (x : Int) : FinS w T lk rows s { m with source := m.source.set i x } (wr.setCell ⟨s.bSource, i, none⟩ (.int .i32 x)) :=
  h.store (t := 4) (b := s.bSource) (e := 21) (l := m.source.map (.int .i32)) rfl (by omega) (fun _ hf => hf.setSource i x)
theorem FinS.cutRow {x cap : Nat} {ao : Option Addr} (h : FinS w T lk rows s m wr) (hv : m.vNodes[x]? = some (.slice ao ((s.put m).row x).length cap)) : FinS w T lk rows s { m with vNodes := m.vNodes.set x (.slice ao 0 cap), nodes := m.nodes.set x [] } (wr.setCell ⟨s.bNodes, x, none⟩ (.slice ao 0 cap)) :=
  h.store (t := 3) (b := s.bNodes) (e := 45) (l := m.vNodes) rfl (by omega) (fun _ hf => hf.cutRow hv)
theorem FinS.cutArcs {cap : Nat} {ao : Option Addr} (h : FinS w T lk rows s m wr) (hv : m.vArcs = .slice ao m.arcs.length cap) : FinS w T lk rows s { m with vArcs := .slice ao 0 cap, arcs := [] } (wr.setCell ⟨s.F, 3, none⟩ (.slice ao 0 cap)) :=
  h.store (t := 1) (b := s.F) (e := 73) (l := (s.put m).fields) rfl (by omega) (fun _ hf => hf.cutArcs hv)
theorem FinS.cutTouched {cap : Nat} {ao : Option Addr} (h : FinS w T lk rows s m wr) (hv : m.vTouched = .slice ao m.touched.length cap) : FinS w T lk rows s { m with vTouched := .slice ao 0 cap, touched := [] } (wr.setCell ⟨s.F, 5, none⟩ (.slice ao 0 cap)) :=
  h.store (t := 1) (b := s.F) (e := 73) (l := (s.put m).fields) rfl (by omega) (fun _ hf => hf.cutTouched hv)
theorem FinS.setBlocked (h : FinS w T lk rows s m wr) (v : Value) : FinS w T lk rows s { m with vBlocked := v } (wr.setCell ⟨s.F, 6, none⟩ v) :=
  h.store (t := 1) (b := s.F) (e := 73) (l := (s.put m).fields) rfl (by omega) (fun _ hf => hf.setBlocked v)
theorem FinS.clearOut (h : FinS w T lk rows s m wr) : FinS w T lk rows s { m with out := List.replicate s.n false } (wr.setRow s.bOut (List.replicate s.n (.bool false)).toArray) := by
  obtain ⟨T', hg, st⟩ := h
  have hm : finT (T' s.bOut) := by rw [(hg.fin.own.arr 2 s.bOut 4 (m.out.map .bool) rfl).1]; exact (by decide : (2 : Nat) ≠ 0)
  exact ⟨T', hg.step ((Step.refl finT wr T').setRow hm _) finT0 hg.fin.clearOut rfl rfl rfl, st.setRow hm _⟩
theorem arcT_fin {t : Nat} (h : arcT t) : finT t := by intro e; subst e; rcases h with h | h | h | h <;> omega
theorem reachT_fin {t : Nat} (h : reachT t) : finT t := by intro e; subst e; rcases h with h | h <;> omega
end
/-- What arc leaves. -/
def FM.arcd (m : FM) (p : Pr) (va : Value) (vn : List Value) : FM := { m with vArcs := va, vNodes := vn, nodes := (addPair (m.nodes, m.arcs) p).1, arcs := (addPair (m.nodes, m.arcs) p).2 }
/-- Where the finder stands, with what is read beside it. -/
structure FinG (w : World) (T : Nat → Nat) (lk : Bool) (rows : List (List Int)) (s : FV) (m : FM) (wr : World) (v : Value) (zs : List Int) : Prop where
  ex : ∃ T', Gs wr T' (s.put m) lk rows ∧ Step finT w T wr T' ∧ RStab wr T' v zs
theorem FinG.s {w wr : World} {T : Nat → Nat} {lk : Bool} {rows : List (List Int)} {s : FV} {m : FM} {v : Value} {zs : List Int} (h : FinG w T lk rows s m wr v zs) : FinS w T lk rows s m wr := by
  obtain ⟨T', h1, h2, _⟩ := h.ex; exact ⟨T', h1, h2⟩
theorem FinG.ksl {w wr : World} {T : Nat → Nat} {lk : Bool} {rows : List (List Int)} {s : FV} {m : FM} {v : Value} {zs : List Int} (h : FinG w T lk rows s m wr v zs) : KSl .i64 wr v zs := by
  obtain ⟨T', _, _, h3⟩ := h.ex; exact h3 (fun _ => False) wr T' (Step.refl _ _ _) (fun h => h) (fun h => h)

/-- arc, called by finder. -/
def ArcS (w : World) (T : Nat → Nat) (lk : Bool) (rows : List (List Int)) (s : FV) (m : FM) (p : Pr) (e : Ending) (w' : World) : Prop := e = .returned (.tuple #[]) ∧ ∃ va vn, FinS w T lk rows s (m.arcd p va vn) w'
theorem arc_s {w wr : World} {T : Nat → Nat} {lk : Bool} {rows : List (List Int)} {s : FV} {m : FM} (p : Pr) (h : FinS w T lk rows s m wr) (ha : p.a < s.V) (hb : p.b < s.V) (hV : s.V ≤ 1000) (hm : m.arcs.length ≤ 1000000) (hr : ∀ x, (m.nodes.getD x []).length ≤ 1000000) (hc0 : 0 ≤ p.cost) (hc1 : p.cost ≤ 1) :
    Calls Try.prog 58 #[ptr0 s.F, .int .i64 p.a, .int .i64 p.b, .int .i8 p.full, .int .i8 p.cost] wr fun e w' => ArcS w T lk rows s m p e w' := by
  obtain ⟨T', hg, st⟩ := h
  refine (arc_any (s := s.put m) p.a p.b p.full p.cost hg.fin ha hb hV hm (hr p.a) (hr p.b) hc0 hc1).mono ?_
  rintro e w' ⟨he, T2, va, vn, hf, st2⟩
  exact ⟨he, va, vn, T2, hg.step st2 (fun h => arcT_fin h rfl) hf rfl rfl rfl, st.trans (st2.mono (fun _ => arcT_fin))⟩
def ArcG (w : World) (T : Nat → Nat) (lk : Bool) (rows : List (List Int)) (s : FV) (m : FM) (p : Pr) (v : Value) (zs : List Int) (e : Ending) (w' : World) : Prop := e = .returned (.tuple #[]) ∧ ∃ va vn, FinG w T lk rows s (m.arcd p va vn) w' v zs
theorem arc_g {w wr : World} {T : Nat → Nat} {lk : Bool} {rows : List (List Int)} {s : FV} {m : FM} {v : Value} {zs : List Int} (p : Pr) (h : FinG w T lk rows s m wr v zs) (ha : p.a < s.V) (hb : p.b < s.V) (hV : s.V ≤ 1000) (hm : m.arcs.length ≤ 1000000) (hr : ∀ x, (m.nodes.getD x []).length ≤ 1000000) (hc0 : 0 ≤ p.cost) (hc1 : p.cost ≤ 1) :
    Calls Try.prog 58 #[ptr0 s.F, .int .i64 p.a, .int .i64 p.b, .int .i8 p.full, .int .i8 p.cost] wr fun e w' => ArcG w T lk rows s m p v zs e w' := by
  obtain ⟨T', hg, st, hst⟩ := h.ex
  refine (arc_any (s := s.put m) p.a p.b p.full p.cost hg.fin ha hb hV hm (hr p.a) (hr p.b) hc0 hc1).mono ?_
  rintro e w' ⟨he, T2, va, vn, hf, st2⟩
  exact ⟨he, va, vn, ⟨T2, hg.step st2 (fun h => arcT_fin h rfl) hf rfl rfl rfl, st.trans (st2.mono (fun _ => arcT_fin)), hst.step st2 (fun h => arcT_fin h rfl) (fun h => by rcases h with h | h | h | h <;> omega)⟩⟩
/-- reach, called by finder. -/
def ReachS (w : World) (T : Nat → Nat) (lk : Bool) (rows : List (List Int)) (s : FV) (m : FM) (k : Nat) (e : Ending) (w' : World) : Prop :=
  ∃ ao n c hE bE, e = .returned (.slice ao n c) ∧ FinG w T lk rows s { m with hasE := hE, bE := bE } w' (.slice ao n c) (reachL s.n lk rows k)
theorem reach_s {w wr : World} {T : Nat → Nat} {lk : Bool} {rows : List (List Int)} {s : FV} {m : FM} (k : Nat) (h : FinS w T lk rows s m wr) (hk : k < s.n) (hn : s.n ≤ 256) (hss : ∀ r ∈ rows, r.length ≤ 1048576) :
    Calls Try.prog 59 #[ptr0 s.G, .int .i64 k] wr fun e w' => ReachS w T lk rows s m k e w' := by
  obtain ⟨T', hg, st⟩ := h
  refine (reach_any (s := s.put m) k hg hk hn hss).mono ?_
  rintro e w' ⟨T2, hE, bE, v, he, hf, st2, hst, ao, n, c, rfl⟩
  exact ⟨ao, n, c, hE, bE, he, ⟨T2, hg.step st2 (fun h => reachT_fin h rfl) hf rfl rfl rfl, st.trans (st2.mono (fun _ => reachT_fin)), hst⟩⟩

section
variable {w wr : World} {T : Nat → Nat} {lk : Bool} {rows : List (List Int)} {s : FV} {m : FM}
theorem FinS.f (h : FinS w T lk rows s m wr) {o : Nat} {v : Value} (ho : (s.put m).fields[o]? = some v) : wr.cell? ⟨s.F, o, none⟩ = some v := by
  obtain ⟨T', hf⟩ := h.fin; exact hf.own.at (t := 1) (e := 73) (l := (s.put m).fields) rfl ho
theorem FinS.ff (h : FinS w T lk rows s m wr) (o : Nat) : wr.frozen? ⟨s.F, o, none⟩ = false := by
  obtain ⟨T', hf⟩ := h.fin; exact hf.own.frozen (t := 1) (e := 73) (l := (s.put m).fields) rfl o
theorem FinS.f1 (h : FinS w T lk rows s m wr) : wr.cell? ⟨s.F, 1, none⟩ = some (.slice (some ⟨s.bOut, 0, none⟩) s.n s.n) := h.f rfl
theorem FinS.f2 (h : FinS w T lk rows s m wr) : wr.cell? ⟨s.F, 2, none⟩ = some (.slice (some ⟨s.bNodes, 0, none⟩) s.V s.V) := h.f rfl
theorem FinS.f3 (h : FinS w T lk rows s m wr) : ∃ ao c, m.vArcs = .slice ao m.arcs.length c ∧ wr.cell? ⟨s.F, 3, none⟩ = some (.slice ao m.arcs.length c) := by
  obtain ⟨T', hf⟩ := h.fin
  obtain ⟨ao, c, e, _⟩ := ownsRow_slice (hf.own.row 11 m.vArcs 67 4 m.arcs.length (m.arcs.flatMap Arc.cells) rfl).1
  exact ⟨ao, c, e, by rw [← e]; exact h.f rfl⟩
theorem FinS.f4 (h : FinS w T lk rows s m wr) : wr.cell? ⟨s.F, 4, none⟩ = some (.slice (some ⟨s.bSource, 0, none⟩) s.n s.n) := h.f rfl
theorem FinS.f5 (h : FinS w T lk rows s m wr) : ∃ ao c, m.vTouched = .slice ao m.touched.length c ∧ wr.cell? ⟨s.F, 5, none⟩ = some (.slice ao m.touched.length c) := by
  obtain ⟨T', hf⟩ := h.fin
  obtain ⟨ao, c, e, _⟩ := ownsRow_slice (hf.own.row 12 m.vTouched 21 1 m.touched.length (m.touched.map (.int .i32)) rfl).1
  exact ⟨ao, c, e, by rw [← e]; exact h.f rfl⟩
theorem FinS.f6 (h : FinS w T lk rows s m wr) : wr.cell? ⟨s.F, 6, none⟩ = some m.vBlocked := h.f rfl
theorem FinS.out (h : FinS w T lk rows s m wr) {i : Nat} (hi : i < s.n) : wr.cell? ⟨s.bOut, i, none⟩ = some (.bool (isOut m.out i)) ∧ wr.frozen? ⟨s.bOut, i, none⟩ = false := by
  have hl : m.out.length = s.n := h.len.out
  obtain ⟨T', hf⟩ := h.fin
  refine ⟨hf.own.at (t := 2) (b := s.bOut) (e := 4) (l := m.out.map .bool) rfl ?_, hf.own.frozen (t := 2) (b := s.bOut) (e := 4) (l := m.out.map .bool) rfl i⟩
  simp [isOut, hl, hi]
theorem FinS.src (h : FinS w T lk rows s m wr) {i : Nat} (hi : i < s.n) : (∃ u, wr.cell? ⟨s.bSource, i, none⟩ = some u) ∧ wr.frozen? ⟨s.bSource, i, none⟩ = false := by
  have hl : m.source.length = s.n := h.len.source
  obtain ⟨T', hf⟩ := h.fin
  refine ⟨⟨_, hf.own.at (t := 4) (b := s.bSource) (e := 21) (l := m.source.map (.int .i32)) rfl (u := .int .i32 (m.source[i]'(by omega))) ?_⟩, hf.own.frozen (t := 4) (b := s.bSource) (e := 21) (l := m.source.map (.int .i32)) rfl i⟩
  simp [hl, hi]
theorem FinS.node (h : FinS w T lk rows s m wr) {x : Nat} (hx : x < s.V) : ∃ ao c, m.vNodes[x]? = some (.slice ao ((s.put m).row x).length c) ∧ wr.cell? ⟨s.bNodes, x, none⟩ = some (.slice ao ((s.put m).row x).length c) ∧ wr.frozen? ⟨s.bNodes, x, none⟩ = false := by
  have hl : m.vNodes.length = s.V := h.len.vNodes
  obtain ⟨T', hf⟩ := h.fin
  have hv : (s.put m).vNodes[x]? = some (m.vNodes[x]'(by omega)) := by show m.vNodes[x]? = _; simp [hl, hx]
  obtain ⟨ao, c, e, _⟩ := ownsRow_slice (hf.own.row _ _ _ _ _ _ ((s.put m).R_row hv)).1
  rw [e] at hv
  exact ⟨ao, c, hv, hf.own.at (t := 3) (b := s.bNodes) (e := 45) (l := m.vNodes) rfl hv, hf.own.frozen (t := 3) (b := s.bNodes) (e := 45) (l := m.vNodes) rfl x⟩
theorem FinS.clr (h : FinS w T lk rows s m wr) (hn : 0 < s.n) (ty : TypeId) : (Builtin.clear_ #[36] ty #[.slice (some ⟨s.bOut, 0, none⟩) s.n s.n]).run Try.prog wr = .ok (.tuple #[]) (wr.setRow s.bOut (List.replicate s.n (.bool false)).toArray) := by
  have hl : m.out.length = s.n := h.len.out
  obtain ⟨T', hf⟩ := h.fin
  exact run_clear_bools (hf.own.arr 2 s.bOut 4 (m.out.map .bool) rfl).2 (by simpa using hl) hn ty
theorem FinS.clr' (h : FinS w T lk rows s m wr) (hn : 0 < s.n) (ty : TypeId) : (Builtin.clear_ #[36] ty #[.slice (some ⟨s.bOut, 0, none⟩) s.n s.n]).run Try.prog wr = .ok (.tuple #[]) (wr.setRow s.bOut (Array.replicate s.n (.bool false))) := by
  have := h.clr hn ty; rwa [List.toArray_replicate] at this
theorem FinS.clearOut' (h : FinS w T lk rows s m wr) : FinS w T lk rows s { m with out := List.replicate s.n false } (wr.setRow s.bOut (Array.replicate s.n (.bool false))) := by
  have := h.clearOut; rwa [List.toArray_replicate] at this
theorem FinS.neF (h : FinS w T lk rows s m wr) : s.F ≠ s.bNodes ∧ s.F ≠ s.bOut ∧ s.F ≠ s.bSource := by
  obtain ⟨T', hf⟩ := h.fin
  have e1 : (s.put m).A 1 = some (s.F, 73, (s.put m).fields) := rfl
  exact ⟨hf.own.arr_ne e1 (t' := 3) (b' := s.bNodes) (e' := 45) (l' := m.vNodes) rfl (by omega), hf.own.arr_ne e1 (t' := 2) (b' := s.bOut) (e' := 4) (l' := m.out.map .bool) rfl (by omega), hf.own.arr_ne e1 (t' := 4) (b' := s.bSource) (e' := 21) (l' := m.source.map (.int .i32)) rfl (by omega)⟩
theorem FinS.arg (h : FinS w T lk rows s m wr) {k : IntKind} {ao : Option Addr} {len cap : Nat} {zs : List Int} (hv : KSl k w (.slice ao len cap) zs) (hl : ∀ b off, ao = some ⟨b, off, none⟩ → T b = 0) : KSl k wr (.slice ao len cap) zs := by
  obtain ⟨T', _, st⟩ := h
  obtain ⟨ao', cap', e, h1, h2, h3⟩ := hv
  cases e
  refine ⟨ao, cap, rfl, h1, h2, fun i hi => ?_⟩
  obtain ⟨b, off, e1, e2⟩ := h3 i hi
  refine ⟨b, off, e1, ?_⟩
  have := st.kept.block b (cell_at e2) (fun hh => hh (hl b off e1))
  rw [World.cell?_of_block (w := w) this]
  exact e2
end
theorem inR_get {n : Int} {l : List Int} (h : inR n l = true) {k : Nat} (hk : k < l.length) : 0 ≤ l[k] ∧ l[k] < n := by
  have := List.all_eq_true.1 h l[k] (List.getElem_mem hk)
  simpa using this
theorem reach_get {n : Nat} {lk : Bool} {rows : List (List Int)} (h : linksOk n lk rows = true) {v : Nat} (hv : v < n) {k : Nat} (hk : k < (reachL n lk rows v).length) : 0 ≤ (reachL n lk rows v)[k] ∧ (reachL n lk rows v)[k] < n := by
  cases lk with
  | false =>
    have e : reachL n false rows v = upTo n := rfl
    have hk' : k < n := by rw [e, upTo_len] at hk; exact hk
    have e2 : (reachL n false rows v)[k] = (k : Int) := upTo_get n k hk'
    rw [e2]
    omega
  | true =>
    have e : reachL n true rows v = rows.getD v [] := rfl
    by_cases hr : v < rows.length
    · have e2 : reachL n true rows v = rows[v] := by rw [e]; simp [hr]
      unfold linksOk at h
      simp only [Bool.not_true, Bool.false_or] at h
      have h1 := List.all_eq_true.1 h rows[v] (by rw [List.mem_take_iff_getElem]; exact ⟨v, by omega, rfl⟩)
      have := inR_get h1 (k := k) (by rw [← e2]; exact hk)
      simp only [e2]
      exact this
    · rw [e] at hk; simp [hr] at hk

theorem linkOf_take_le (out : List Bool) (v : Nat) (zs : List Int) (j : Nat) : (linkOf out v (zs.take j)).length ≤ (linkOf out v zs).length := by
  unfold linkOf
  rw [List.length_map, List.length_map]
  exact ((List.take_sublist j zs).filter _).length_le
/-- The network laid so far. -/
def NetI (V : Nat) (m : FM) (out : List Bool) (ps : List Pr) : Prop := m.out = out ∧ (m.nodes, m.arcs) = netOf V ps ∧ m.touched = [] ∧ m.vBlocked = .slice none 0 0
theorem NetI.arcs {V : Nat} {m : FM} {out : List Bool} {ps : List Pr} (h : NetI V m out ps) : m.arcs.length = 2 * ps.length := by
  have := congrArg (fun x => x.2.length) h.2.1
  simp only at this
  rw [this, netOf_arcs]
theorem NetI.rows {V : Nat} {m : FM} {out : List Bool} {ps : List Pr} (h : NetI V m out ps) (x : Nat) : (m.nodes.getD x []).length ≤ 2 * ps.length := by
  have := congrArg (fun y => (y.1.getD x []).length) h.2.1
  simp only at this
  rw [this]; exact netOf_row V ps x
theorem NetI.add {V : Nat} {m : FM} {out : List Bool} {ps : List Pr} (h : NetI V m out ps) (p : Pr) (va : Value) (vn : List Value) : NetI V (m.arcd p va vn) out (ps ++ [p]) := by
  refine ⟨h.1, ?_, h.2.2⟩
  rw [netOf_snoc, ← h.2.1]
  rfl
theorem NetI.eqE {V : Nat} {m : FM} {out : List Bool} {ps : List Pr} (h : NetI V m out ps) (a : Bool) (b : Nat) : NetI V { m with hasE := a, bE := b } out ps := h
theorem NetI.eqS {V : Nat} {m : FM} {out : List Bool} {ps : List Pr} (h : NetI V m out ps) (a : List Int) : NetI V { m with source := a } out ps := h

/-- arc at arguments however they are spelt. -/
theorem arc_s' {w wr : World} {T : Nat → Nat} {lk : Bool} {rows : List (List Int)} {s : FV} {m : FM} {out : List Bool} {ps : List Pr} (p : Pr) (x y f c : Int) (hx : x = p.a) (hy : y = p.b) (hf : f = p.full) (hc : c = p.cost) (h : FinS w T lk rows s m wr) (hN : NetI s.V m out ps) (hp : ps.length ≤ 400000) (ha : p.a < s.V) (hb : p.b < s.V) (hV : s.V ≤ 513) (hc0 : 0 ≤ p.cost) (hc1 : p.cost ≤ 1) :
    Calls Try.prog 58 #[.pointer (some ⟨s.F, 0, none⟩), .int .i64 x, .int .i64 y, .int .i8 f, .int .i8 c] wr fun e w' => e = .returned (.tuple #[]) ∧ ∃ m', FinS w T lk rows s m' w' ∧ NetI s.V m' out (ps ++ [p]) ∧ m'.source = m.source := by
  subst hx hy hf hc
  refine (arc_s p h ha hb (by omega) (by rw [hN.arcs]; omega) (fun x => Nat.le_trans (hN.rows x) (by omega)) hc0 hc1).mono ?_
  rintro e w' ⟨he, va, vn, hs⟩
  exact ⟨he, _, hs, hN.add p va vn, rfl⟩
theorem arc_g' {w wr : World} {T : Nat → Nat} {lk : Bool} {rows : List (List Int)} {s : FV} {m : FM} {out : List Bool} {ps : List Pr} {v : Value} {zs : List Int} (p : Pr) (x y f c : Int) (hx : x = p.a) (hy : y = p.b) (hf : f = p.full) (hc : c = p.cost) (h : FinG w T lk rows s m wr v zs) (hN : NetI s.V m out ps) (hp : ps.length ≤ 400000) (ha : p.a < s.V) (hb : p.b < s.V) (hV : s.V ≤ 513) (hc0 : 0 ≤ p.cost) (hc1 : p.cost ≤ 1) :
    Calls Try.prog 58 #[.pointer (some ⟨s.F, 0, none⟩), .int .i64 x, .int .i64 y, .int .i8 f, .int .i8 c] wr fun e w' => e = .returned (.tuple #[]) ∧ ∃ m', FinG w T lk rows s m' w' v zs ∧ NetI s.V m' out (ps ++ [p]) := by
  subst hx hy hf hc
  refine (arc_g p h ha hb (by omega) (by rw [hN.arcs]; omega) (fun x => Nat.le_trans (hN.rows x) (by omega)) hc0 hc1).mono ?_
  rintro e w' ⟨he, va, vn, hs⟩
  exact ⟨he, _, hs, hN.add p va vn⟩
theorem reach_s' {w wr : World} {T : Nat → Nat} {lk : Bool} {rows : List (List Int)} {s : FV} {m : FM} {out : List Bool} {ps : List Pr} (k : Nat) (h : FinS w T lk rows s m wr) (hN : NetI s.V m out ps) (hk : k < s.n) (hn : s.n ≤ 256) (hss : ∀ r ∈ rows, r.length ≤ 1048576) :
    Calls Try.prog 59 #[.pointer (some ⟨s.G, 0, none⟩), .int .i64 (k : Int)] wr fun e w' => ∃ ao c m', e = .returned (.slice ao (reachL s.n lk rows k).length c) ∧ FinG w T lk rows s m' w' (.slice ao (reachL s.n lk rows k).length c) (reachL s.n lk rows k) ∧ NetI s.V m' out ps := by
  refine (reach_s k h hk hn hss).mono ?_
  rintro e w' ⟨ao, n, c, hE, bE, he, hg⟩
  obtain ⟨ao', c', e2, _⟩ := hg.ksl
  cases e2
  exact ⟨ao, c, _, he, hg, hN.eqE hE bE⟩
end Go.Proofs.Qxb6605292a
