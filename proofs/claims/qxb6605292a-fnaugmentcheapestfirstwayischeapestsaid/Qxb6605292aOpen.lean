/-
  The arguments, opened: slices of ints and of rows that came in.
-/
import Derived.Test.Qxb6605292aRows
import Derived.Test.Qxb6605292aBase
import Derived.WalkKit
import Derived.ProofKit
import Derived.OpenShut
import Derived.Deep.Matrix
namespace Go.Proofs.Qxb6605292a
open Go.ChangeShapes Go.WideShapes Go.ChangeAt Go.RowKit

theorem Try.own : ownKnob Try.prog.godebug = none := by kernel_rfl
theorem Try.laidOut : laidOutB Try.prog = true := by kernel_rfl
theorem Try.cells3 : Try.prog.cellsOf 3 = 1 := by kernel_rfl
theorem Try.cells4 : Try.prog.cellsOf 4 = 1 := by kernel_rfl
theorem Try.cells23 : Try.prog.cellsOf 23 = 1 := by kernel_rfl

section
variable {H : Type} {enc : TypeId × Value → H} {W : World} {base : Nat} {v : Value} {d : DataW H} {ps : List MemPlace}
theorem spot_none {w : World} {a : Addr} {u : Value} (h : w.cell? (a.add 0) = some u) : ∃ b off, a = ⟨b, off, none⟩ := by
  obtain ⟨b, off, spot⟩ := a
  have hspot : spot = none := by simpa [Addr.add] using World.cell?_spot h
  subst hspot
  exact ⟨b, off, rfl⟩
theorem add_at (b off i : Nat) : (⟨b, off, none⟩ : Addr).add i = ⟨b, off + i, none⟩ := by
  unfold Addr.add
  split
  · rename_i h; subst h; rfl
  · rfl
theorem open_ksl (hv : Value.okWide Try.prog W .any base 23 v) (h : DataW.Trod enc Try.prog W 0 (fun _ => true) true 23 v d ps) : ∃ zs, KSl .i64 W v zs := by
  obtain ⟨fuel, hf⟩ := h
  obtain ⟨a0, len, cap, rfl⟩ := okWide_slice Try.underlying23 hv
  rcases open_ints Try.underlying23 Try.underlying3 Try.cells3 hf with ⟨hcs, hx⟩ | ⟨a, len', cap', zs, hcs, _, hl, hm, hz, hx, hcell, hwz⟩
  · simp [Value.cells] at hcs
    obtain ⟨rfl, rfl, rfl⟩ := hcs
    exact ⟨[], KSl.nil _ _⟩
  · simp [Value.cells] at hcs
    obtain ⟨rfl, rfl, rfl⟩ := hcs
    simp only [if_true] at hz
    have hlen : (zs.take len).length = len := by rw [List.length_take]; omega
    refine ⟨zs.take len, some a, cap, by rw [hlen], by rw [hlen]; omega, (fun h => by cases h), fun i hi => ?_⟩
    rw [hlen] at hi
    have hc := hcell i (by omega)
    obtain ⟨b, off, rfl⟩ := spot_none (hcell 0 (by omega))
    rw [add_at] at hc
    refine ⟨b, off, rfl, ?_⟩
    have hg : zs.getD i 0 = (zs.take len)[i]'(by rw [hlen]; exact hi) := by simp [show i < zs.length by omega]
    rw [← hg]
    exact hc
theorem open_rsl (hv : Value.okWide Try.prog W .any base 22 v) (h : DataW.Trod enc Try.prog W 0 (fun _ => true) true 22 v d ps) : ∃ rows, RSl W v rows := by
  obtain ⟨fuel, hf⟩ := h
  obtain ⟨a0, len, cap, rfl⟩ := okWide_slice Try.underlying22 hv
  rcases Go.Deep.open_int_rows Try.underlying22 Try.underlying23 Try.underlying3 Try.cells23 Try.cells3 hf with ⟨hcs, hx⟩ | ⟨a, len', cap', A, L, C, Z, hcs, _, hl, hm, hx, hcell⟩
  · simp [Value.cells] at hcs
    obtain ⟨rfl, rfl, rfl⟩ := hcs
    exact ⟨[], RSl.nil _⟩
  · simp [Value.cells] at hcs
    obtain ⟨rfl, rfl, rfl⟩ := hcs
    refine ⟨(List.range len).map fun r => (Z r).take (L r), some a, cap, by simp, by simp; omega, (fun h => by cases h), fun i hi => ?_⟩
    have hi' : i < len := by simpa using hi
    obtain ⟨c1, c2, c3, c4, c5, c6, c7⟩ := hcell i (by omega)
    obtain ⟨b, off, rfl⟩ := spot_none (hcell 0 (by omega)).1
    rw [add_at] at c1
    refine ⟨b, off, .slice (A i) (L i) (C i), rfl, c1, ?_⟩
    have hrow : ((List.range len).map fun r => (Z r).take (L r))[i] = (Z i).take (L i) := by simp
    rw [hrow]
    have hlen : ((Z i).take (L i)).length = L i := by rw [List.length_take]; omega
    refine ⟨A i, C i, by rw [hlen], by rw [hlen]; omega, (fun h => ?_), fun j hj => ?_⟩
    · have := c6 h
      exact ⟨List.eq_nil_of_length_eq_zero (by rw [hlen]; omega), this⟩
    · rw [hlen] at hj
      cases hA : A i with
      | none => have := c6 hA; omega
      | some a' =>
        obtain ⟨_, hc⟩ := c7 a' hA
        have hcj := hc j (by omega)
        obtain ⟨b', off', rfl⟩ := spot_none (hc 0 (by omega))
        rw [add_at] at hcj
        refine ⟨b', off', rfl, ?_⟩
        have hg : (Z i).getD j 0 = ((Z i).take (L i))[j]'(by rw [hlen]; exact hj) := by simp [show j < (Z i).length by omega]
        rw [← hg]
        exact hcj
end
end Go.Proofs.Qxb6605292a
