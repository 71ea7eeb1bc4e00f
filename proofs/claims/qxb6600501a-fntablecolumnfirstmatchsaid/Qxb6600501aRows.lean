/-
  No cell of these rows narrows 'for every input' (looked for: loops, veiled, ifaces, maps, wideKeys, modest, calm, conditions, laid).
  DERIVED. THE GIVEN ROWS OF THIS SEAT. 4 by the template 'for every input the law returns true; each argument reads behind the call as it read before'; 0 by the template 'total and deterministic' (their statements: Qxb6600501aTotals.lean).
  GIVEN WITH THE SEED: the statements are not yours to turn. If you find one false, say at which input.
  Laid BY PROGRAM, IN A SANDBOX (cutbox-rows.mjs): the forced cells as the released guide's own fill.sh prints them over the translation 6f0ea4b4c817f786… (all of the seat's roots in one cut). By AI agents, Wed Nov 11 2026. No macro, syntax, notation, axiom, sorry.
-/
import Derived.Test.Qxb6600501aChecked
import GoSem.Claim
import GoSem.ClaimJoined
import GoSem.ClaimMapViews
import Derived.JoinedTies
import Derived.KernelRfl
namespace Go.Proofs.Qxb6600501a
/- THE CELL 'sum', in the pinned program and in every row, IS THE sha256 OF THE DUMP (.gsa) THAT Qxb6600501aProg.lean LOADS. Nothing in Lean hashes anything: it is a label: what it is worth is what the hold of that sum in a sandbox is worth. -/
noncomputable def Try.pinned : Pinned := { name := "qxb6600501a", sum := "6f0ea4b4c817f7866ea6c4563ba070d3f6596b97835db3a4fcbc84df23f23dda", checked := Try.checked }
namespace Rows
def none {H : Type} : Left H := { results := [], args := [] }

/-- 'zzlaws_internal_postgres_b1.FnCapturesQuerySplicesCondition': WHATEVER THE INPUT: true; the input reads as it did. -/
def fnCapturesQuerySplicesConditionSpec : ChangeSpec := { name := "fnCapturesQuerySplicesCondition", fn := fun _ => fun
  | [d] => { results := [.lit (.bool true)], args := [d] }
  | _ => none }
def fnCapturesQuerySplicesConditionRow : OpenClaim := { program := "qxb6600501a", sum := "6f0ea4b4c817f7866ea6c4563ba070d3f6596b97835db3a4fcbc84df23f23dda", func := "example.com/wadden/wadden/zzlaws_internal_postgres_b1.FnCapturesQuerySplicesCondition", spec := "fnCapturesQuerySplicesCondition", apart := false }
def FnCapturesQuerySplicesConditionSaid : Prop := fnCapturesQuerySplicesConditionRow.holds Try.pinned (OpenSpec.ofChange fnCapturesQuerySplicesConditionSpec)

/-- ITS FALSE NEIGHBOUR: 'it returns false'. Refute it at one input. -/
def fnCapturesQuerySplicesConditionWrong : ChangeSpec := { name := "fnCapturesQuerySplicesCondition", fn := fun _ => fun
  | [d] => { results := [.lit (.bool false)], args := [d] }
  | _ => none }
def FnCapturesQuerySplicesConditionWrongFalsely : Prop := fnCapturesQuerySplicesConditionRow.holds Try.pinned (OpenSpec.ofChange fnCapturesQuerySplicesConditionWrong)

/-- 'zzlaws_internal_postgres_b1.FnCapturesQueryInjective': WHATEVER THE INPUT: true; the input reads as it did. -/
def fnCapturesQueryInjectiveSpec : ChangeSpec := { name := "fnCapturesQueryInjective", fn := fun _ => fun
  | [d1, d2] => { results := [.lit (.bool true)], args := [d1, d2] }
  | _ => none }
def fnCapturesQueryInjectiveRow : OpenClaim := { program := "qxb6600501a", sum := "6f0ea4b4c817f7866ea6c4563ba070d3f6596b97835db3a4fcbc84df23f23dda", func := "example.com/wadden/wadden/zzlaws_internal_postgres_b1.FnCapturesQueryInjective", spec := "fnCapturesQueryInjective", apart := false }
def FnCapturesQueryInjectiveSaid : Prop := fnCapturesQueryInjectiveRow.holds Try.pinned (OpenSpec.ofChange fnCapturesQueryInjectiveSpec)

/-- ITS FALSE NEIGHBOUR: 'it returns false'. Refute it at one input. -/
def fnCapturesQueryInjectiveWrong : ChangeSpec := { name := "fnCapturesQueryInjective", fn := fun _ => fun
  | [d1, d2] => { results := [.lit (.bool false)], args := [d1, d2] }
  | _ => none }
def FnCapturesQueryInjectiveWrongFalsely : Prop := fnCapturesQueryInjectiveRow.holds Try.pinned (OpenSpec.ofChange fnCapturesQueryInjectiveWrong)

/-- 'zzlaws_internal_postgres_b1.FnTableColumnFirstMatch': WHATEVER THE INPUT: true; the input reads as it did. -/
def fnTableColumnFirstMatchSpec : ChangeSpec := { name := "fnTableColumnFirstMatch", fn := fun _ => fun
  | [d1, d2] => { results := [.lit (.bool true)], args := [d1, d2] }
  | _ => none }
def fnTableColumnFirstMatchRow : OpenClaim := { program := "qxb6600501a", sum := "6f0ea4b4c817f7866ea6c4563ba070d3f6596b97835db3a4fcbc84df23f23dda", func := "example.com/wadden/wadden/zzlaws_internal_postgres_b1.FnTableColumnFirstMatch", spec := "fnTableColumnFirstMatch", apart := false }
def FnTableColumnFirstMatchSaid : Prop := fnTableColumnFirstMatchRow.holds Try.pinned (OpenSpec.ofChange fnTableColumnFirstMatchSpec)

/-- ITS FALSE NEIGHBOUR: 'it returns false'. Refute it at one input. -/
def fnTableColumnFirstMatchWrong : ChangeSpec := { name := "fnTableColumnFirstMatch", fn := fun _ => fun
  | [d1, d2] => { results := [.lit (.bool false)], args := [d1, d2] }
  | _ => none }
def FnTableColumnFirstMatchWrongFalsely : Prop := fnTableColumnFirstMatchRow.holds Try.pinned (OpenSpec.ofChange fnTableColumnFirstMatchWrong)

/-- 'zzlaws_internal_postgres_b1.FnTableColumnConcat': WHATEVER THE INPUT: true; the input reads as it did. -/
def fnTableColumnConcatSpec : ChangeSpec := { name := "fnTableColumnConcat", fn := fun _ => fun
  | [d1, d2, d3] => { results := [.lit (.bool true)], args := [d1, d2, d3] }
  | _ => none }
def fnTableColumnConcatRow : OpenClaim := { program := "qxb6600501a", sum := "6f0ea4b4c817f7866ea6c4563ba070d3f6596b97835db3a4fcbc84df23f23dda", func := "example.com/wadden/wadden/zzlaws_internal_postgres_b1.FnTableColumnConcat", spec := "fnTableColumnConcat", apart := false }
def FnTableColumnConcatSaid : Prop := fnTableColumnConcatRow.holds Try.pinned (OpenSpec.ofChange fnTableColumnConcatSpec)

/-- ITS FALSE NEIGHBOUR: 'it returns false'. Refute it at one input. -/
def fnTableColumnConcatWrong : ChangeSpec := { name := "fnTableColumnConcat", fn := fun _ => fun
  | [d1, d2, d3] => { results := [.lit (.bool false)], args := [d1, d2, d3] }
  | _ => none }
def FnTableColumnConcatWrongFalsely : Prop := fnTableColumnConcatRow.holds Try.pinned (OpenSpec.ofChange fnTableColumnConcatWrong)

end Rows
end Go.Proofs.Qxb6600501a
