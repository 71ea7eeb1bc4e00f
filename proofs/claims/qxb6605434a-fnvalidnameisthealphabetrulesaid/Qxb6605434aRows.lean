/-
  No cell of these rows narrows 'for every input' (looked for: loops, veiled, ifaces, maps, wideKeys, modest, calm, conditions, laid).
  DERIVED. THE GIVEN ROWS OF THIS SEAT. 1 by the template 'for every input the law returns true; each argument reads behind the call as it read before'; 0 by the template 'total and deterministic' (their statements: Qxb6605434aTotals.lean).
  GIVEN WITH THE SEED: the statements are not yours to turn. If you find one false, say at which input.
  Laid BY PROGRAM, IN A SANDBOX (cutbox-rows.mjs): the forced cells as the released guide's own fill.sh prints them over the translation ba43a64b8528df1d… (all of the seat's roots in one cut). By AI agents, Wed Nov 11 2026. No macro, syntax, notation, axiom, sorry.
-/
import Derived.Test.Qxb6605434aChecked
import GoSem.Claim
import GoSem.ClaimJoined
import GoSem.ClaimMapViews
import Derived.JoinedTies
import Derived.KernelRfl
namespace Go.Proofs.Qxb6605434a
/- THE CELL 'sum', in the pinned program and in every row, IS THE sha256 OF THE DUMP (.gsa) THAT Qxb6605434aProg.lean LOADS. Nothing in Lean hashes anything: it is a label: what it is worth is what the hold of that sum in a sandbox is worth. -/
noncomputable def Try.pinned : Pinned := { name := "qxb6605434a", sum := "ba43a64b8528df1dc689d6ea0f2d032dc6c90e981b755421af3416c9affa035b", checked := Try.checked }
namespace Rows
def none {H : Type} : Left H := { results := [], args := [] }

/-- 'zzlaws_internal_jobfile_b1.FnValidNameIsTheAlphabetRule': WHATEVER THE INPUT: true; the input reads as it did. -/
def fnValidNameIsTheAlphabetRuleSpec : ChangeSpec := { name := "fnValidNameIsTheAlphabetRule", fn := fun _ => fun
  | [d] => { results := [.lit (.bool true)], args := [d] }
  | _ => none }
def fnValidNameIsTheAlphabetRuleRow : OpenClaim := { program := "qxb6605434a", sum := "ba43a64b8528df1dc689d6ea0f2d032dc6c90e981b755421af3416c9affa035b", func := "example.com/orrery/orrery/zzlaws_internal_jobfile_b1.FnValidNameIsTheAlphabetRule", spec := "fnValidNameIsTheAlphabetRule", apart := false }
def FnValidNameIsTheAlphabetRuleSaid : Prop := fnValidNameIsTheAlphabetRuleRow.holds Try.pinned (OpenSpec.ofChange fnValidNameIsTheAlphabetRuleSpec)

/-- ITS FALSE NEIGHBOUR: 'it returns false'. Refute it at one input. -/
def fnValidNameIsTheAlphabetRuleWrong : ChangeSpec := { name := "fnValidNameIsTheAlphabetRule", fn := fun _ => fun
  | [d] => { results := [.lit (.bool false)], args := [d] }
  | _ => none }
def FnValidNameIsTheAlphabetRuleWrongFalsely : Prop := fnValidNameIsTheAlphabetRuleRow.holds Try.pinned (OpenSpec.ofChange fnValidNameIsTheAlphabetRuleWrong)

end Rows
end Go.Proofs.Qxb6605434a
