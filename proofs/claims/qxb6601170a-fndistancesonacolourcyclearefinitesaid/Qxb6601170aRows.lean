/-
  No cell of these rows narrows 'for every input' (looked for: loops, veiled, ifaces, maps, wideKeys, modest, calm, conditions, laid).
  DERIVED. THE GIVEN ROWS OF THIS SEAT. 6 by the template 'for every input the law returns true; each argument reads behind the call as it read before'; 0 by the template 'total and deterministic' (their statements: Qxb6601170aTotals.lean).
  GIVEN WITH THE SEED: the statements are not yours to turn. If you find one false, say at which input.
  Laid BY PROGRAM, IN A SANDBOX (cutbox-rows.mjs): the forced cells as the released guide's own fill.sh prints them over the translation 73d08ecded47ca5d… (all of the seat's roots in one cut). By AI agents, Wed Nov 11 2026. No macro, syntax, notation, axiom, sorry.
-/
import Derived.Test.Qxb6601170aChecked
import GoSem.Claim
import GoSem.ClaimJoined
import GoSem.ClaimMapViews
import Derived.JoinedTies
import Derived.KernelRfl
namespace Go.Proofs.Qxb6601170a
/- THE CELL 'sum', in the pinned program and in every row, IS THE sha256 OF THE DUMP (.gsa) THAT Qxb6601170aProg.lean LOADS. Nothing in Lean hashes anything: it is a label: what it is worth is what the hold of that sum in a sandbox is worth. -/
noncomputable def Try.pinned : Pinned := { name := "qxb6601170a", sum := "73d08ecded47ca5d52fa4eb9063bd8b292fddb98e7a093aa1d6f176fe3cfb12d", checked := Try.checked }
namespace Rows
def none {H : Type} : Left H := { results := [], args := [] }

/-- 'zzlaws_pkg_overlay_b1.FnJoinInsertsAfterFirstPresentPlace': WHATEVER THE INPUT: true; the input reads as it did. -/
def fnJoinInsertsAfterFirstPresentPlaceSpec : ChangeSpec := { name := "fnJoinInsertsAfterFirstPresentPlace", fn := fun _ => fun
  | [d1, d2, d3, d4] => { results := [.lit (.bool true)], args := [d1, d2, d3, d4] }
  | _ => none }
def fnJoinInsertsAfterFirstPresentPlaceRow : OpenClaim := { program := "qxb6601170a", sum := "73d08ecded47ca5d52fa4eb9063bd8b292fddb98e7a093aa1d6f176fe3cfb12d", func := "example.com/cyclecast/cyclecast/zzlaws_pkg_overlay_b1.FnJoinInsertsAfterFirstPresentPlace", spec := "fnJoinInsertsAfterFirstPresentPlace", apart := false }
def FnJoinInsertsAfterFirstPresentPlaceSaid : Prop := fnJoinInsertsAfterFirstPresentPlaceRow.holds Try.pinned (OpenSpec.ofChange fnJoinInsertsAfterFirstPresentPlaceSpec)

/-- ITS FALSE NEIGHBOUR: 'it returns false'. Refute it at one input. -/
def fnJoinInsertsAfterFirstPresentPlaceWrong : ChangeSpec := { name := "fnJoinInsertsAfterFirstPresentPlace", fn := fun _ => fun
  | [d1, d2, d3, d4] => { results := [.lit (.bool false)], args := [d1, d2, d3, d4] }
  | _ => none }
def FnJoinInsertsAfterFirstPresentPlaceWrongFalsely : Prop := fnJoinInsertsAfterFirstPresentPlaceRow.holds Try.pinned (OpenSpec.ofChange fnJoinInsertsAfterFirstPresentPlaceWrong)

/-- 'zzlaws_pkg_overlay_b1.FnJoinScriptKeepsEveryLayerOneCycle': WHATEVER THE INPUT: true; the input reads as it did. -/
def fnJoinScriptKeepsEveryLayerOneCycleSpec : ChangeSpec := { name := "fnJoinScriptKeepsEveryLayerOneCycle", fn := fun _ => fun
  | [d1, d2] => { results := [.lit (.bool true)], args := [d1, d2] }
  | _ => none }
def fnJoinScriptKeepsEveryLayerOneCycleRow : OpenClaim := { program := "qxb6601170a", sum := "73d08ecded47ca5d52fa4eb9063bd8b292fddb98e7a093aa1d6f176fe3cfb12d", func := "example.com/cyclecast/cyclecast/zzlaws_pkg_overlay_b1.FnJoinScriptKeepsEveryLayerOneCycle", spec := "fnJoinScriptKeepsEveryLayerOneCycle", apart := false }
def FnJoinScriptKeepsEveryLayerOneCycleSaid : Prop := fnJoinScriptKeepsEveryLayerOneCycleRow.holds Try.pinned (OpenSpec.ofChange fnJoinScriptKeepsEveryLayerOneCycleSpec)

/-- ITS FALSE NEIGHBOUR: 'it returns false'. Refute it at one input. -/
def fnJoinScriptKeepsEveryLayerOneCycleWrong : ChangeSpec := { name := "fnJoinScriptKeepsEveryLayerOneCycle", fn := fun _ => fun
  | [d1, d2] => { results := [.lit (.bool false)], args := [d1, d2] }
  | _ => none }
def FnJoinScriptKeepsEveryLayerOneCycleWrongFalsely : Prop := fnJoinScriptKeepsEveryLayerOneCycleRow.holds Try.pinned (OpenSpec.ofChange fnJoinScriptKeepsEveryLayerOneCycleWrong)

/-- 'zzlaws_pkg_overlay_b1.FnRenumberedPullsBackThroughOrder': WHATEVER THE INPUT: true; the input reads as it did. -/
def fnRenumberedPullsBackThroughOrderSpec : ChangeSpec := { name := "fnRenumberedPullsBackThroughOrder", fn := fun _ => fun
  | [d1, d2, d3, d4, d5, d6, d7] => { results := [.lit (.bool true)], args := [d1, d2, d3, d4, d5, d6, d7] }
  | _ => none }
def fnRenumberedPullsBackThroughOrderRow : OpenClaim := { program := "qxb6601170a", sum := "73d08ecded47ca5d52fa4eb9063bd8b292fddb98e7a093aa1d6f176fe3cfb12d", func := "example.com/cyclecast/cyclecast/zzlaws_pkg_overlay_b1.FnRenumberedPullsBackThroughOrder", spec := "fnRenumberedPullsBackThroughOrder", apart := false }
def FnRenumberedPullsBackThroughOrderSaid : Prop := fnRenumberedPullsBackThroughOrderRow.holds Try.pinned (OpenSpec.ofChange fnRenumberedPullsBackThroughOrderSpec)

/-- ITS FALSE NEIGHBOUR: 'it returns false'. Refute it at one input. -/
def fnRenumberedPullsBackThroughOrderWrong : ChangeSpec := { name := "fnRenumberedPullsBackThroughOrder", fn := fun _ => fun
  | [d1, d2, d3, d4, d5, d6, d7] => { results := [.lit (.bool false)], args := [d1, d2, d3, d4, d5, d6, d7] }
  | _ => none }
def FnRenumberedPullsBackThroughOrderWrongFalsely : Prop := fnRenumberedPullsBackThroughOrderRow.holds Try.pinned (OpenSpec.ofChange fnRenumberedPullsBackThroughOrderWrong)

/-- 'zzlaws_pkg_overlay_b1.FnRenumberedComposes': WHATEVER THE INPUT: true; the input reads as it did. -/
def fnRenumberedComposesSpec : ChangeSpec := { name := "fnRenumberedComposes", fn := fun _ => fun
  | [d1, d2, d3, d4, d5, d6, d7, d8] => { results := [.lit (.bool true)], args := [d1, d2, d3, d4, d5, d6, d7, d8] }
  | _ => none }
def fnRenumberedComposesRow : OpenClaim := { program := "qxb6601170a", sum := "73d08ecded47ca5d52fa4eb9063bd8b292fddb98e7a093aa1d6f176fe3cfb12d", func := "example.com/cyclecast/cyclecast/zzlaws_pkg_overlay_b1.FnRenumberedComposes", spec := "fnRenumberedComposes", apart := false }
def FnRenumberedComposesSaid : Prop := fnRenumberedComposesRow.holds Try.pinned (OpenSpec.ofChange fnRenumberedComposesSpec)

/-- ITS FALSE NEIGHBOUR: 'it returns false'. Refute it at one input. -/
def fnRenumberedComposesWrong : ChangeSpec := { name := "fnRenumberedComposes", fn := fun _ => fun
  | [d1, d2, d3, d4, d5, d6, d7, d8] => { results := [.lit (.bool false)], args := [d1, d2, d3, d4, d5, d6, d7, d8] }
  | _ => none }
def FnRenumberedComposesWrongFalsely : Prop := fnRenumberedComposesRow.holds Try.pinned (OpenSpec.ofChange fnRenumberedComposesWrong)

/-- 'zzlaws_pkg_overlay_b1.FnDistancesAreShortestPaths': WHATEVER THE INPUT: true; the input reads as it did. -/
def fnDistancesAreShortestPathsSpec : ChangeSpec := { name := "fnDistancesAreShortestPaths", fn := fun _ => fun
  | [d1, d2, d3, d4, d5, d6, d7] => { results := [.lit (.bool true)], args := [d1, d2, d3, d4, d5, d6, d7] }
  | _ => none }
def fnDistancesAreShortestPathsRow : OpenClaim := { program := "qxb6601170a", sum := "73d08ecded47ca5d52fa4eb9063bd8b292fddb98e7a093aa1d6f176fe3cfb12d", func := "example.com/cyclecast/cyclecast/zzlaws_pkg_overlay_b1.FnDistancesAreShortestPaths", spec := "fnDistancesAreShortestPaths", apart := false }
def FnDistancesAreShortestPathsSaid : Prop := fnDistancesAreShortestPathsRow.holds Try.pinned (OpenSpec.ofChange fnDistancesAreShortestPathsSpec)

/-- ITS FALSE NEIGHBOUR: 'it returns false'. Refute it at one input. -/
def fnDistancesAreShortestPathsWrong : ChangeSpec := { name := "fnDistancesAreShortestPaths", fn := fun _ => fun
  | [d1, d2, d3, d4, d5, d6, d7] => { results := [.lit (.bool false)], args := [d1, d2, d3, d4, d5, d6, d7] }
  | _ => none }
def FnDistancesAreShortestPathsWrongFalsely : Prop := fnDistancesAreShortestPathsRow.holds Try.pinned (OpenSpec.ofChange fnDistancesAreShortestPathsWrong)

/-- 'zzlaws_pkg_overlay_b1.FnDistancesOnAColourCycleAreFinite': WHATEVER THE INPUT: true; the input reads as it did. -/
def fnDistancesOnAColourCycleAreFiniteSpec : ChangeSpec := { name := "fnDistancesOnAColourCycleAreFinite", fn := fun _ => fun
  | [d1, d2, d3, d4, d5, d6, d7] => { results := [.lit (.bool true)], args := [d1, d2, d3, d4, d5, d6, d7] }
  | _ => none }
def fnDistancesOnAColourCycleAreFiniteRow : OpenClaim := { program := "qxb6601170a", sum := "73d08ecded47ca5d52fa4eb9063bd8b292fddb98e7a093aa1d6f176fe3cfb12d", func := "example.com/cyclecast/cyclecast/zzlaws_pkg_overlay_b1.FnDistancesOnAColourCycleAreFinite", spec := "fnDistancesOnAColourCycleAreFinite", apart := false }
def FnDistancesOnAColourCycleAreFiniteSaid : Prop := fnDistancesOnAColourCycleAreFiniteRow.holds Try.pinned (OpenSpec.ofChange fnDistancesOnAColourCycleAreFiniteSpec)

/-- ITS FALSE NEIGHBOUR: 'it returns false'. Refute it at one input. -/
def fnDistancesOnAColourCycleAreFiniteWrong : ChangeSpec := { name := "fnDistancesOnAColourCycleAreFinite", fn := fun _ => fun
  | [d1, d2, d3, d4, d5, d6, d7] => { results := [.lit (.bool false)], args := [d1, d2, d3, d4, d5, d6, d7] }
  | _ => none }
def FnDistancesOnAColourCycleAreFiniteWrongFalsely : Prop := fnDistancesOnAColourCycleAreFiniteRow.holds Try.pinned (OpenSpec.ofChange fnDistancesOnAColourCycleAreFiniteWrong)

end Rows
end Go.Proofs.Qxb6601170a
