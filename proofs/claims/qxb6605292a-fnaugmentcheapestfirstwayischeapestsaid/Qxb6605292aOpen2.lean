/-
  The arguments, opened: a slice of bools that came in.
-/
import Derived.Test.Qxb6605292aOpen
import Derived.Deep.Grids
namespace Go.Proofs.Qxb6605292a
open Go.ChangeShapes Go.WideShapes Go.ChangeAt Go.RowKit

theorem open_bsl {H : Type} {enc : TypeId × Value → H} {W : World} {base : Nat} {v : Value} {d : DataW H} {ps : List MemPlace} (hv : Value.okWide Try.prog W .any base 36 v) (h : DataW.Trod enc Try.prog W 0 (fun _ => true) true 36 v d ps) : ∃ zs, BSl W v zs := by
  obtain ⟨fuel, hf⟩ := h
  obtain ⟨a0, len, cap, rfl⟩ := okWide_slice Try.underlying36 hv
  rcases Go.Deep.open_bools Try.underlying36 Try.underlying4 Try.cells4 hf with ⟨hcs, hx⟩ | ⟨a, len', cap', B, hcs, _, hl, hm, hx, hcell⟩
  · simp [Value.cells] at hcs
    obtain ⟨rfl, rfl, rfl⟩ := hcs
    exact ⟨[], BSl.nil _⟩
  · simp [Value.cells] at hcs
    obtain ⟨rfl, rfl, rfl⟩ := hcs
    refine ⟨(List.range len).map B, some a, cap, by simp, by simp; omega, (fun h => by cases h), fun i hi => ?_⟩
    have hi' : i < len := by simpa using hi
    have hc := hcell i (by omega)
    obtain ⟨b, off, rfl⟩ := spot_none (hcell 0 (by omega))
    rw [add_at] at hc
    refine ⟨b, off, rfl, ?_⟩
    simpa using hc
end Go.Proofs.Qxb6605292a
