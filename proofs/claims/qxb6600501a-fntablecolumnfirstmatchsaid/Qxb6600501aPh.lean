/-
  Statement 8: FnTableColumnFirstMatchSaid.
-/
import Derived.Test.Qxb6600501aRows
import Derived.Test.Qxb6600501aLaw
import Derived.WalkKit
import Derived.ProofKit
import Derived.OpenShut
import Derived.SliceStrings
namespace Go.Proofs.Qxb6600501a.fnTableColumnFirstMatch
open Go.ChangeShapes Go.WideShapes Go.ChangeAt Go.RowKit
open Go.ChangeMaps (open_string)

theorem own : ownKnob Try.prog.godebug = none := by kernel_rfl
theorem laidOut : laidOutB Try.prog = true := by kernel_rfl
theorem cells9' : Try.prog.cellsOf 9 = 1 := by kernel_rfl
section
variable {H : Type} {enc : TypeId × Value → H} {W : World} {base : Nat} {v : Value} {d : DataW H} {ps : List MemPlace}
theorem spot_none {w : World} {a : Addr} {u : Value} (h : w.cell? (a.add 0) = some u) : ∃ b off, a = ⟨b, off, none⟩ := by
  obtain ⟨b, off, spot⟩ := a
  have hspot : spot = none := by simpa [Addr.add] using World.cell?_spot h
  subst hspot
  exact ⟨b, off, rfl⟩
theorem open_ssl (hv : Value.okWide Try.prog W .any base 25 v) (h : DataW.Trod enc Try.prog W 0 (fun _ => true) true 25 v d ps) : ∃ ns, SSl W v ns ∧ ∀ x ∈ ns, x.size ≤ 9223372036854775807 := by
  obtain ⟨fuel, hf⟩ := h
  obtain ⟨a0, len, cap, rfl⟩ := okWide_slice Try.underlying25 hv
  rcases open_strings Try.underlying25 Try.underlying9 cells9' hf with ⟨hcs, hx⟩ | ⟨a, len', cap', zs, hcs, _, hl, hm, hz, hx, hcell, hwz⟩
  · simp [Value.cells] at hcs
    obtain ⟨rfl, rfl, rfl⟩ := hcs
    exact ⟨[], SSl.nil _, fun x hx => by cases hx⟩
  · simp [Value.cells] at hcs
    obtain ⟨rfl, rfl, rfl⟩ := hcs
    simp only [if_true] at hz
    have hlen : (zs.take len).length = len := by rw [List.length_take]; omega
    refine ⟨zs.take len, ⟨some a, cap, by rw [hlen], by rw [hlen]; omega, (fun h => by cases h), fun i hi => ?_⟩, fun x hx => by have := hwz x (List.mem_of_mem_take hx); unfold maxLen at this; omega⟩
    rw [hlen] at hi
    have hc := hcell i (by omega)
    obtain ⟨b, off, rfl⟩ := spot_none (hcell 0 (by omega))
    rw [Addr.add_mid] at hc
    refine ⟨b, off, rfl, ?_⟩
    have hg : zs.getD i ByteArray.empty = (zs.take len)[i]'(by rw [hlen]; exact hi) := by simp [show i < zs.length by omega]
    rw [← hg]
    exact hc
end

set_option maxRecDepth 100000 in
theorem lifted (os : Os) (started : os.Started) (H : Type) (enc : TypeId × Value → H) :
    ReturnsInHanded {} Try.checked os 5 .any (Rows.fnTableColumnFirstMatchSpec.pre6 enc Try.prog Try.f5 Rows.fnTableColumnFirstMatchRow.domain false) (Rows.fnTableColumnFirstMatchSpec.post enc Try.prog Try.f5 false true false false) := by
  refine returnsInHanded_of_change (C := Try.checked) own started (by kernel_rfl) Try.func5
    (ChangeSpec.witness6 (enc := enc) (C := Try.checked) false ⟨#[], #[.slice none 0 0, .string ByteArray.empty], []⟩ 8 (by kernel_rfl) (by kernel_rfl) (by kernel_rfl) (by kernel_rfl)) ?_
  intro W base args ds gs before hval0 hW hcnd _
  have hval : ∀ (j : Nat) t v, Try.f5.params[j]? = some t → args[j]? = some v → Value.okWide Try.prog W .any base t v := hval0
  have hW' := hW
  obtain ⟨p, q, hA0, hV, rfl, hfz, hnd⟩ := hW
  have hA : DataW.TrodAll enc Try.prog W 0 (fun _ => true) true Try.f5.params.toList args.toList ds p := hA0
  rw [Try.params5] at hA hval
  obtain ⟨v0, vs0, d0, ds0, p0, q0, hargs, rfl, rfl, h0, r0⟩ := trodAll_cons hA
  obtain ⟨v1, vs1, d1, ds1, p1, q1, rfl, rfl, rfl, h1, r1⟩ := trodAll_cons r0
  obtain ⟨rfl, rfl, rfl⟩ := trodAll_nil r1
  obtain rfl : args = #[v0, v1] := by cases args; simp_all
  obtain ⟨rfl, rfl⟩ := trodVars_none hV
  have k0 := h0
  have k1 := h1
  obtain ⟨ns, hns, hnz⟩ := open_ssl (hval 0 25 v0 rfl rfl) h0
  obtain ⟨nm, rfl, rfl, rfl, wm⟩ := open_string Try.underlying9 (hval 1 9 v1 rfl rfl) h1
  clear hA0 hval0
  have hltAll : ∀ x ∈ (p0 ++ ([] ++ [])) ++ [], x.block < W.heap.size := fun x hx => hW'.lt x hx
  have hlt0 : ∀ x ∈ p0, x.block < W.heap.size := fun x hx => hltAll x (by simp [hx])
  have no : ∀ x ∈ ([] : List MemPlace), x.block < W.heap.size := fun x hx => by cases hx
  refine (law_any v0 ns nm W hns (by unfold maxLen at wm; omega) hnz).mono fun e W' ⟨he, hb⟩ => ?_
  subst he
  refine ⟨_, rfl, ⟨_, _, _, [], p0 ++ ([] ++ []), [], hW', trodAll_mk1 (shut_bool Try.underlying4 _), ?_, rfl, hb.frame _, fun h => by cases h⟩⟩
  exact trodAll_cons_mk (Below.trod laidOut (by kernel_rfl) (of_decide_eq_true (by kernel_rfl)) k0 hb hlt0) (trodAll_cons_mk (Below.trod laidOut (by kernel_rfl) (of_decide_eq_true (by kernel_rfl)) k1 hb no) trodAll_mk0)

theorem proved : Rows.FnTableColumnFirstMatchSaid :=
  OpenClaim.holds_of_wide 5 Try.f5 rfl rfl rfl rfl rfl rfl rfl ⟨rfl, rfl, rfl, rfl, rfl⟩ rfl rfl rfl rfl rfl (by kernel_rfl) Try.func5 (by kernel_rfl)
    (of_decide_eq_true (by kernel_rfl)) (by unfold Func.isWrapper; first | (rw [if_pos (by decide +kernel)]; kernel_rfl) | (rw [if_neg (by decide +kernel)]; exact ⟨rfl, rfl⟩))
    (fun os started H enc _ => lifted os started H enc)
end Go.Proofs.Qxb6600501a.fnTableColumnFirstMatch
