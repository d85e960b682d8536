/-
  No cell of these rows narrows 'for every input' (looked for: loops, veiled, ifaces, maps, wideKeys, modest, calm, conditions, laid).
  DERIVED. THE GIVEN ROWS OF THIS SEAT. 4 by the template 'for every input the law returns true; each argument reads behind the call as it read before'; 0 by the template 'total and deterministic' (their statements: Qxb6604394aTotals.lean).
  GIVEN WITH THE SEED: the statements are not yours to turn. If you find one false, say at which input.
  Laid BY PROGRAM, IN A SANDBOX (cutbox-rows.mjs): the forced cells as the released guide's own fill.sh prints them over the translation 21538e26e2c4ee1f… (all of the seat's roots in one cut). By AI agents, Wed Nov 11 2026. No macro, syntax, notation, axiom, sorry.
-/
import Derived.Test.Qxb6604394aChecked
import GoSem.Claim
import GoSem.ClaimJoined
import GoSem.ClaimMapViews
import Derived.JoinedTies
import Derived.KernelRfl
namespace Go.Proofs.Qxb6604394a
/- THE CELL 'sum', in the pinned program and in every row, IS THE sha256 OF THE DUMP (.gsa) THAT Qxb6604394aProg.lean LOADS. Nothing in Lean hashes anything: it is a label: what it is worth is what the hold of that sum in a sandbox is worth. -/
noncomputable def Try.pinned : Pinned := { name := "qxb6604394a", sum := "21538e26e2c4ee1fbef28f81b531e0316b106e13ff66a638ab6b9360868480b5", checked := Try.checked }
namespace Rows
def none {H : Type} : Left H := { results := [], args := [] }

/-- 'zzlaws_internal_model_b1.FnMeasureCountsByWeightedNodes': WHATEVER THE INPUT: true; the input reads as it did. -/
def fnMeasureCountsByWeightedNodesSpec : ChangeSpec := { name := "fnMeasureCountsByWeightedNodes", fn := fun _ => fun
  | [d] => { results := [.lit (.bool true)], args := [d] }
  | _ => none }
def fnMeasureCountsByWeightedNodesRow : OpenClaim := { program := "qxb6604394a", sum := "21538e26e2c4ee1fbef28f81b531e0316b106e13ff66a638ab6b9360868480b5", func := "example.com/chanlock/chanlock/zzlaws_internal_model_b1.FnMeasureCountsByWeightedNodes", spec := "fnMeasureCountsByWeightedNodes", recurses := true, apart := false }
def FnMeasureCountsByWeightedNodesSaid : Prop := fnMeasureCountsByWeightedNodesRow.holds Try.pinned (OpenSpec.ofChange fnMeasureCountsByWeightedNodesSpec)

/-- ITS FALSE NEIGHBOUR: 'it returns false'. Refute it at one input. -/
def fnMeasureCountsByWeightedNodesWrong : ChangeSpec := { name := "fnMeasureCountsByWeightedNodes", fn := fun _ => fun
  | [d] => { results := [.lit (.bool false)], args := [d] }
  | _ => none }
def FnMeasureCountsByWeightedNodesWrongFalsely : Prop := fnMeasureCountsByWeightedNodesRow.holds Try.pinned (OpenSpec.ofChange fnMeasureCountsByWeightedNodesWrong)

/-- 'zzlaws_internal_model_b1.FnMeasureIgnoresWhatFollows': WHATEVER THE INPUT: true; the input reads as it did. -/
def fnMeasureIgnoresWhatFollowsSpec : ChangeSpec := { name := "fnMeasureIgnoresWhatFollows", fn := fun _ => fun
  | [d1, d2] => { results := [.lit (.bool true)], args := [d1, d2] }
  | _ => none }
def fnMeasureIgnoresWhatFollowsRow : OpenClaim := { program := "qxb6604394a", sum := "21538e26e2c4ee1fbef28f81b531e0316b106e13ff66a638ab6b9360868480b5", func := "example.com/chanlock/chanlock/zzlaws_internal_model_b1.FnMeasureIgnoresWhatFollows", spec := "fnMeasureIgnoresWhatFollows", recurses := true, apart := false }
def FnMeasureIgnoresWhatFollowsSaid : Prop := fnMeasureIgnoresWhatFollowsRow.holds Try.pinned (OpenSpec.ofChange fnMeasureIgnoresWhatFollowsSpec)

/-- ITS FALSE NEIGHBOUR: 'it returns false'. Refute it at one input. -/
def fnMeasureIgnoresWhatFollowsWrong : ChangeSpec := { name := "fnMeasureIgnoresWhatFollows", fn := fun _ => fun
  | [d1, d2] => { results := [.lit (.bool false)], args := [d1, d2] }
  | _ => none }
def FnMeasureIgnoresWhatFollowsWrongFalsely : Prop := fnMeasureIgnoresWhatFollowsRow.holds Try.pinned (OpenSpec.ofChange fnMeasureIgnoresWhatFollowsWrong)

/-- 'zzlaws_internal_model_b1.FnWalkVisitsExactlyTheReachable': WHATEVER THE INPUT: true; the input reads as it did. -/
def fnWalkVisitsExactlyTheReachableSpec : ChangeSpec := { name := "fnWalkVisitsExactlyTheReachable", fn := fun _ => fun
  | [d1, d2, d3, d4] => { results := [.lit (.bool true)], args := [d1, d2, d3, d4] }
  | _ => none }
def fnWalkVisitsExactlyTheReachableRow : OpenClaim := { program := "qxb6604394a", sum := "21538e26e2c4ee1fbef28f81b531e0316b106e13ff66a638ab6b9360868480b5", func := "example.com/chanlock/chanlock/zzlaws_internal_model_b1.FnWalkVisitsExactlyTheReachable", spec := "fnWalkVisitsExactlyTheReachable", unfollowed := true, recurses := true, apart := false }
def FnWalkVisitsExactlyTheReachableSaid : Prop := fnWalkVisitsExactlyTheReachableRow.holds Try.pinned (OpenSpec.ofChange fnWalkVisitsExactlyTheReachableSpec)

/-- ITS FALSE NEIGHBOUR: 'it returns false'. Refute it at one input. -/
def fnWalkVisitsExactlyTheReachableWrong : ChangeSpec := { name := "fnWalkVisitsExactlyTheReachable", fn := fun _ => fun
  | [d1, d2, d3, d4] => { results := [.lit (.bool false)], args := [d1, d2, d3, d4] }
  | _ => none }
def FnWalkVisitsExactlyTheReachableWrongFalsely : Prop := fnWalkVisitsExactlyTheReachableRow.holds Try.pinned (OpenSpec.ofChange fnWalkVisitsExactlyTheReachableWrong)

/-- 'zzlaws_internal_model_b1.FnWalkIsClosedAndIdempotent': WHATEVER THE INPUT: true; the input reads as it did. -/
def fnWalkIsClosedAndIdempotentSpec : ChangeSpec := { name := "fnWalkIsClosedAndIdempotent", fn := fun _ => fun
  | [d1, d2, d3, d4] => { results := [.lit (.bool true)], args := [d1, d2, d3, d4] }
  | _ => none }
def fnWalkIsClosedAndIdempotentRow : OpenClaim := { program := "qxb6604394a", sum := "21538e26e2c4ee1fbef28f81b531e0316b106e13ff66a638ab6b9360868480b5", func := "example.com/chanlock/chanlock/zzlaws_internal_model_b1.FnWalkIsClosedAndIdempotent", spec := "fnWalkIsClosedAndIdempotent", unfollowed := true, recurses := true, apart := false }
def FnWalkIsClosedAndIdempotentSaid : Prop := fnWalkIsClosedAndIdempotentRow.holds Try.pinned (OpenSpec.ofChange fnWalkIsClosedAndIdempotentSpec)

/-- ITS FALSE NEIGHBOUR: 'it returns false'. Refute it at one input. -/
def fnWalkIsClosedAndIdempotentWrong : ChangeSpec := { name := "fnWalkIsClosedAndIdempotent", fn := fun _ => fun
  | [d1, d2, d3, d4] => { results := [.lit (.bool false)], args := [d1, d2, d3, d4] }
  | _ => none }
def FnWalkIsClosedAndIdempotentWrongFalsely : Prop := fnWalkIsClosedAndIdempotentRow.holds Try.pinned (OpenSpec.ofChange fnWalkIsClosedAndIdempotentWrong)

end Rows
end Go.Proofs.Qxb6604394a
