/-
  No cell of these rows narrows 'for every input' (looked for: loops, veiled, ifaces, maps, wideKeys, modest, calm, conditions, laid).
  DERIVED. THE GIVEN ROWS OF THIS SEAT. 6 by the template 'for every input the law returns true; each argument reads behind the call as it read before'; 0 by the template 'total and deterministic' (their statements: Qxb6605292aTotals.lean).
  GIVEN WITH THE SEED: the statements are not yours to turn. If you find one false, say at which input.
  Laid BY PROGRAM, IN A SANDBOX (cutbox-rows.mjs): the forced cells as the released guide's own fill.sh prints them over the translation 7a4c861e9249dbda… (all of the seat's roots in one cut). By AI agents, Wed Nov 11 2026. No macro, syntax, notation, axiom, sorry.
-/
import Derived.Test.Qxb6605292aChecked
import GoSem.Claim
import GoSem.ClaimJoined
import GoSem.ClaimMapViews
import Derived.JoinedTies
import Derived.KernelRfl
namespace Go.Proofs.Qxb6605292a
/- THE CELL 'sum', in the pinned program and in every row, IS THE sha256 OF THE DUMP (.gsa) THAT Qxb6605292aProg.lean LOADS. Nothing in Lean hashes anything: it is a label: what it is worth is what the hold of that sum in a sandbox is worth. -/
noncomputable def Try.pinned : Pinned := { name := "qxb6605292a", sum := "7a4c861e9249dbda06442d92bccd38fb5c5d96ba9cd01c0cd7c83105a1430bcb", checked := Try.checked }
namespace Rows
def none {H : Type} : Left H := { results := [], args := [] }

/-- 'zzlaws_root_b1.FnFinderLaysExactNetwork': WHATEVER THE INPUT: true; the input reads as it did. -/
def fnFinderLaysExactNetworkSpec : ChangeSpec := { name := "fnFinderLaysExactNetwork", fn := fun _ => fun
  | [d1, d2, d3, d4, d5] => { results := [.lit (.bool true)], args := [d1, d2, d3, d4, d5] }
  | _ => none }
def fnFinderLaysExactNetworkRow : OpenClaim := { program := "qxb6605292a", sum := "7a4c861e9249dbda06442d92bccd38fb5c5d96ba9cd01c0cd7c83105a1430bcb", func := "envoy-accord.example/accord/zzlaws_root_b1.FnFinderLaysExactNetwork", spec := "fnFinderLaysExactNetwork", apart := false }
def FnFinderLaysExactNetworkSaid : Prop := fnFinderLaysExactNetworkRow.holds Try.pinned (OpenSpec.ofChange fnFinderLaysExactNetworkSpec)

/-- ITS FALSE NEIGHBOUR: 'it returns false'. Refute it at one input. -/
def fnFinderLaysExactNetworkWrong : ChangeSpec := { name := "fnFinderLaysExactNetwork", fn := fun _ => fun
  | [d1, d2, d3, d4, d5] => { results := [.lit (.bool false)], args := [d1, d2, d3, d4, d5] }
  | _ => none }
def FnFinderLaysExactNetworkWrongFalsely : Prop := fnFinderLaysExactNetworkRow.holds Try.pinned (OpenSpec.ofChange fnFinderLaysExactNetworkWrong)

/-- 'zzlaws_root_b1.FnFinderRelaidIsFresh': WHATEVER THE INPUT: true; the input reads as it did. -/
def fnFinderRelaidIsFreshSpec : ChangeSpec := { name := "fnFinderRelaidIsFresh", fn := fun _ => fun
  | [d1, d2, d3, d4, d5, d6, d7] => { results := [.lit (.bool true)], args := [d1, d2, d3, d4, d5, d6, d7] }
  | _ => none }
def fnFinderRelaidIsFreshRow : OpenClaim := { program := "qxb6605292a", sum := "7a4c861e9249dbda06442d92bccd38fb5c5d96ba9cd01c0cd7c83105a1430bcb", func := "envoy-accord.example/accord/zzlaws_root_b1.FnFinderRelaidIsFresh", spec := "fnFinderRelaidIsFresh", apart := false }
def FnFinderRelaidIsFreshSaid : Prop := fnFinderRelaidIsFreshRow.holds Try.pinned (OpenSpec.ofChange fnFinderRelaidIsFreshSpec)

/-- ITS FALSE NEIGHBOUR: 'it returns false'. Refute it at one input. -/
def fnFinderRelaidIsFreshWrong : ChangeSpec := { name := "fnFinderRelaidIsFresh", fn := fun _ => fun
  | [d1, d2, d3, d4, d5, d6, d7] => { results := [.lit (.bool false)], args := [d1, d2, d3, d4, d5, d6, d7] }
  | _ => none }
def FnFinderRelaidIsFreshWrongFalsely : Prop := fnFinderRelaidIsFreshRow.holds Try.pinned (OpenSpec.ofChange fnFinderRelaidIsFreshWrong)

/-- 'zzlaws_root_b1.FnAugmentSendsMaxDisjointPaths': WHATEVER THE INPUT: true; the input reads as it did. -/
def fnAugmentSendsMaxDisjointPathsSpec : ChangeSpec := { name := "fnAugmentSendsMaxDisjointPaths", fn := fun _ => fun
  | [d1, d2, d3, d4, d5, d6, d7] => { results := [.lit (.bool true)], args := [d1, d2, d3, d4, d5, d6, d7] }
  | _ => none }
def fnAugmentSendsMaxDisjointPathsRow : OpenClaim := { program := "qxb6605292a", sum := "7a4c861e9249dbda06442d92bccd38fb5c5d96ba9cd01c0cd7c83105a1430bcb", func := "envoy-accord.example/accord/zzlaws_root_b1.FnAugmentSendsMaxDisjointPaths", spec := "fnAugmentSendsMaxDisjointPaths", apart := false }
def FnAugmentSendsMaxDisjointPathsSaid : Prop := fnAugmentSendsMaxDisjointPathsRow.holds Try.pinned (OpenSpec.ofChange fnAugmentSendsMaxDisjointPathsSpec)

/-- ITS FALSE NEIGHBOUR: 'it returns false'. Refute it at one input. -/
def fnAugmentSendsMaxDisjointPathsWrong : ChangeSpec := { name := "fnAugmentSendsMaxDisjointPaths", fn := fun _ => fun
  | [d1, d2, d3, d4, d5, d6, d7] => { results := [.lit (.bool false)], args := [d1, d2, d3, d4, d5, d6, d7] }
  | _ => none }
def FnAugmentSendsMaxDisjointPathsWrongFalsely : Prop := fnAugmentSendsMaxDisjointPathsRow.holds Try.pinned (OpenSpec.ofChange fnAugmentSendsMaxDisjointPathsWrong)

/-- 'zzlaws_root_b1.FnAugmentFirstWayHasFewestArcs': WHATEVER THE INPUT: true; the input reads as it did. -/
def fnAugmentFirstWayHasFewestArcsSpec : ChangeSpec := { name := "fnAugmentFirstWayHasFewestArcs", fn := fun _ => fun
  | [d1, d2, d3, d4, d5, d6, d7] => { results := [.lit (.bool true)], args := [d1, d2, d3, d4, d5, d6, d7] }
  | _ => none }
def fnAugmentFirstWayHasFewestArcsRow : OpenClaim := { program := "qxb6605292a", sum := "7a4c861e9249dbda06442d92bccd38fb5c5d96ba9cd01c0cd7c83105a1430bcb", func := "envoy-accord.example/accord/zzlaws_root_b1.FnAugmentFirstWayHasFewestArcs", spec := "fnAugmentFirstWayHasFewestArcs", apart := false }
def FnAugmentFirstWayHasFewestArcsSaid : Prop := fnAugmentFirstWayHasFewestArcsRow.holds Try.pinned (OpenSpec.ofChange fnAugmentFirstWayHasFewestArcsSpec)

/-- ITS FALSE NEIGHBOUR: 'it returns false'. Refute it at one input. -/
def fnAugmentFirstWayHasFewestArcsWrong : ChangeSpec := { name := "fnAugmentFirstWayHasFewestArcs", fn := fun _ => fun
  | [d1, d2, d3, d4, d5, d6, d7] => { results := [.lit (.bool false)], args := [d1, d2, d3, d4, d5, d6, d7] }
  | _ => none }
def FnAugmentFirstWayHasFewestArcsWrongFalsely : Prop := fnAugmentFirstWayHasFewestArcsRow.holds Try.pinned (OpenSpec.ofChange fnAugmentFirstWayHasFewestArcsWrong)

/-- 'zzlaws_root_b1.FnAugmentCheapestSendsCheapestMaxFlow': WHATEVER THE INPUT: true; the input reads as it did. -/
def fnAugmentCheapestSendsCheapestMaxFlowSpec : ChangeSpec := { name := "fnAugmentCheapestSendsCheapestMaxFlow", fn := fun _ => fun
  | [d1, d2, d3, d4, d5, d6, d7, d8] => { results := [.lit (.bool true)], args := [d1, d2, d3, d4, d5, d6, d7, d8] }
  | _ => none }
def fnAugmentCheapestSendsCheapestMaxFlowRow : OpenClaim := { program := "qxb6605292a", sum := "7a4c861e9249dbda06442d92bccd38fb5c5d96ba9cd01c0cd7c83105a1430bcb", func := "envoy-accord.example/accord/zzlaws_root_b1.FnAugmentCheapestSendsCheapestMaxFlow", spec := "fnAugmentCheapestSendsCheapestMaxFlow", apart := false }
def FnAugmentCheapestSendsCheapestMaxFlowSaid : Prop := fnAugmentCheapestSendsCheapestMaxFlowRow.holds Try.pinned (OpenSpec.ofChange fnAugmentCheapestSendsCheapestMaxFlowSpec)

/-- ITS FALSE NEIGHBOUR: 'it returns false'. Refute it at one input. -/
def fnAugmentCheapestSendsCheapestMaxFlowWrong : ChangeSpec := { name := "fnAugmentCheapestSendsCheapestMaxFlow", fn := fun _ => fun
  | [d1, d2, d3, d4, d5, d6, d7, d8] => { results := [.lit (.bool false)], args := [d1, d2, d3, d4, d5, d6, d7, d8] }
  | _ => none }
def FnAugmentCheapestSendsCheapestMaxFlowWrongFalsely : Prop := fnAugmentCheapestSendsCheapestMaxFlowRow.holds Try.pinned (OpenSpec.ofChange fnAugmentCheapestSendsCheapestMaxFlowWrong)

/-- 'zzlaws_root_b1.FnAugmentCheapestFirstWayIsCheapest': WHATEVER THE INPUT: true; the input reads as it did. -/
def fnAugmentCheapestFirstWayIsCheapestSpec : ChangeSpec := { name := "fnAugmentCheapestFirstWayIsCheapest", fn := fun _ => fun
  | [d1, d2, d3, d4, d5, d6, d7, d8] => { results := [.lit (.bool true)], args := [d1, d2, d3, d4, d5, d6, d7, d8] }
  | _ => none }
def fnAugmentCheapestFirstWayIsCheapestRow : OpenClaim := { program := "qxb6605292a", sum := "7a4c861e9249dbda06442d92bccd38fb5c5d96ba9cd01c0cd7c83105a1430bcb", func := "envoy-accord.example/accord/zzlaws_root_b1.FnAugmentCheapestFirstWayIsCheapest", spec := "fnAugmentCheapestFirstWayIsCheapest", apart := false }
def FnAugmentCheapestFirstWayIsCheapestSaid : Prop := fnAugmentCheapestFirstWayIsCheapestRow.holds Try.pinned (OpenSpec.ofChange fnAugmentCheapestFirstWayIsCheapestSpec)

/-- ITS FALSE NEIGHBOUR: 'it returns false'. Refute it at one input. -/
def fnAugmentCheapestFirstWayIsCheapestWrong : ChangeSpec := { name := "fnAugmentCheapestFirstWayIsCheapest", fn := fun _ => fun
  | [d1, d2, d3, d4, d5, d6, d7, d8] => { results := [.lit (.bool false)], args := [d1, d2, d3, d4, d5, d6, d7, d8] }
  | _ => none }
def FnAugmentCheapestFirstWayIsCheapestWrongFalsely : Prop := fnAugmentCheapestFirstWayIsCheapestRow.holds Try.pinned (OpenSpec.ofChange fnAugmentCheapestFirstWayIsCheapestWrong)

end Rows
end Go.Proofs.Qxb6605292a
