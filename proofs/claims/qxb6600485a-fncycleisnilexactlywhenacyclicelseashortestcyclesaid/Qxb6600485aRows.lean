/-
  No cell of these rows narrows 'for every input' (looked for: loops, veiled, ifaces, maps, wideKeys, modest, calm, conditions, laid).
  DERIVED. THE GIVEN ROWS OF THIS SEAT. 5 by the template 'for every input the law returns true; each argument reads behind the call as it read before'; 0 by the template 'total and deterministic' (their statements: Qxb6600485aTotals.lean).
  GIVEN WITH THE SEED: the statements are not yours to turn. If you find one false, say at which input.
  Laid BY PROGRAM, IN A SANDBOX (cutbox-rows.mjs): the forced cells as the released guide's own fill.sh prints them over the translation dd32502bdad1ec88… (all of the seat's roots in one cut). By AI agents, Wed Nov 11 2026. No macro, syntax, notation, axiom, sorry.
-/
import Derived.Test.Qxb6600485aChecked
import GoSem.Claim
import GoSem.ClaimJoined
import GoSem.ClaimMapViews
import Derived.JoinedTies
import Derived.KernelRfl
namespace Go.Proofs.Qxb6600485a
/- THE CELL 'sum', in the pinned program and in every row, IS THE sha256 OF THE DUMP (.gsa) THAT Qxb6600485aProg.lean LOADS. Nothing in Lean hashes anything: it is a label: what it is worth is what the hold of that sum in a sandbox is worth. -/
noncomputable def Try.pinned : Pinned := { name := "qxb6600485a", sum := "dd32502bdad1ec884ad9f6014c00bb503d081aba1f7754abc5d42500b4f59d92", checked := Try.checked }
namespace Rows
def none {H : Type} : Left H := { results := [], args := [] }

/-- 'zzlaws_internal_history_b1.FnCycleOnOutDegreeOneGraphIsFirstRootsLoop': WHATEVER THE INPUT: true; the input reads as it did. -/
def fnCycleOnOutDegreeOneGraphIsFirstRootsLoopSpec : ChangeSpec := { name := "fnCycleOnOutDegreeOneGraphIsFirstRootsLoop", fn := fun _ => fun
  | [d1, d2] => { results := [.lit (.bool true)], args := [d1, d2] }
  | _ => none }
def fnCycleOnOutDegreeOneGraphIsFirstRootsLoopRow : OpenClaim := { program := "qxb6600485a", sum := "dd32502bdad1ec884ad9f6014c00bb503d081aba1f7754abc5d42500b4f59d92", func := "example.com/serialis/serialis/zzlaws_internal_history_b1.FnCycleOnOutDegreeOneGraphIsFirstRootsLoop", spec := "fnCycleOnOutDegreeOneGraphIsFirstRootsLoop", apart := false }
def FnCycleOnOutDegreeOneGraphIsFirstRootsLoopSaid : Prop := fnCycleOnOutDegreeOneGraphIsFirstRootsLoopRow.holds Try.pinned (OpenSpec.ofChange fnCycleOnOutDegreeOneGraphIsFirstRootsLoopSpec)

/-- ITS FALSE NEIGHBOUR: 'it returns false'. Refute it at one input. -/
def fnCycleOnOutDegreeOneGraphIsFirstRootsLoopWrong : ChangeSpec := { name := "fnCycleOnOutDegreeOneGraphIsFirstRootsLoop", fn := fun _ => fun
  | [d1, d2] => { results := [.lit (.bool false)], args := [d1, d2] }
  | _ => none }
def FnCycleOnOutDegreeOneGraphIsFirstRootsLoopWrongFalsely : Prop := fnCycleOnOutDegreeOneGraphIsFirstRootsLoopRow.holds Try.pinned (OpenSpec.ofChange fnCycleOnOutDegreeOneGraphIsFirstRootsLoopWrong)

/-- 'zzlaws_internal_history_b1.FnCycleIsNilExactlyWhenAcyclicElseAShortestCycle': WHATEVER THE INPUT: true; the input reads as it did. -/
def fnCycleIsNilExactlyWhenAcyclicElseAShortestCycleSpec : ChangeSpec := { name := "fnCycleIsNilExactlyWhenAcyclicElseAShortestCycle", fn := fun _ => fun
  | [d] => { results := [.lit (.bool true)], args := [d] }
  | _ => none }
def fnCycleIsNilExactlyWhenAcyclicElseAShortestCycleRow : OpenClaim := { program := "qxb6600485a", sum := "dd32502bdad1ec884ad9f6014c00bb503d081aba1f7754abc5d42500b4f59d92", func := "example.com/serialis/serialis/zzlaws_internal_history_b1.FnCycleIsNilExactlyWhenAcyclicElseAShortestCycle", spec := "fnCycleIsNilExactlyWhenAcyclicElseAShortestCycle", apart := false }
def FnCycleIsNilExactlyWhenAcyclicElseAShortestCycleSaid : Prop := fnCycleIsNilExactlyWhenAcyclicElseAShortestCycleRow.holds Try.pinned (OpenSpec.ofChange fnCycleIsNilExactlyWhenAcyclicElseAShortestCycleSpec)

/-- ITS FALSE NEIGHBOUR: 'it returns false'. Refute it at one input. -/
def fnCycleIsNilExactlyWhenAcyclicElseAShortestCycleWrong : ChangeSpec := { name := "fnCycleIsNilExactlyWhenAcyclicElseAShortestCycle", fn := fun _ => fun
  | [d] => { results := [.lit (.bool false)], args := [d] }
  | _ => none }
def FnCycleIsNilExactlyWhenAcyclicElseAShortestCycleWrongFalsely : Prop := fnCycleIsNilExactlyWhenAcyclicElseAShortestCycleRow.holds Try.pinned (OpenSpec.ofChange fnCycleIsNilExactlyWhenAcyclicElseAShortestCycleWrong)

/-- 'zzlaws_internal_history_b1.FnCycleDependsOnIdsOnlyAsLabels': WHATEVER THE INPUT: true; the input reads as it did. -/
def fnCycleDependsOnIdsOnlyAsLabelsSpec : ChangeSpec := { name := "fnCycleDependsOnIdsOnlyAsLabels", fn := fun _ => fun
  | [d1, d2] => { results := [.lit (.bool true)], args := [d1, d2] }
  | _ => none }
def fnCycleDependsOnIdsOnlyAsLabelsRow : OpenClaim := { program := "qxb6600485a", sum := "dd32502bdad1ec884ad9f6014c00bb503d081aba1f7754abc5d42500b4f59d92", func := "example.com/serialis/serialis/zzlaws_internal_history_b1.FnCycleDependsOnIdsOnlyAsLabels", spec := "fnCycleDependsOnIdsOnlyAsLabels", apart := false }
def FnCycleDependsOnIdsOnlyAsLabelsSaid : Prop := fnCycleDependsOnIdsOnlyAsLabelsRow.holds Try.pinned (OpenSpec.ofChange fnCycleDependsOnIdsOnlyAsLabelsSpec)

/-- ITS FALSE NEIGHBOUR: 'it returns false'. Refute it at one input. -/
def fnCycleDependsOnIdsOnlyAsLabelsWrong : ChangeSpec := { name := "fnCycleDependsOnIdsOnlyAsLabels", fn := fun _ => fun
  | [d1, d2] => { results := [.lit (.bool false)], args := [d1, d2] }
  | _ => none }
def FnCycleDependsOnIdsOnlyAsLabelsWrongFalsely : Prop := fnCycleDependsOnIdsOnlyAsLabelsRow.holds Try.pinned (OpenSpec.ofChange fnCycleDependsOnIdsOnlyAsLabelsWrong)

/-- 'zzlaws_internal_history_b1.FnShortestCycleOnOutDegreeOneGraphIsTheWalk': WHATEVER THE INPUT: true; the input reads as it did. -/
def fnShortestCycleOnOutDegreeOneGraphIsTheWalkSpec : ChangeSpec := { name := "fnShortestCycleOnOutDegreeOneGraphIsTheWalk", fn := fun _ => fun
  | [d1, d2, d3] => { results := [.lit (.bool true)], args := [d1, d2, d3] }
  | _ => none }
def fnShortestCycleOnOutDegreeOneGraphIsTheWalkRow : OpenClaim := { program := "qxb6600485a", sum := "dd32502bdad1ec884ad9f6014c00bb503d081aba1f7754abc5d42500b4f59d92", func := "example.com/serialis/serialis/zzlaws_internal_history_b1.FnShortestCycleOnOutDegreeOneGraphIsTheWalk", spec := "fnShortestCycleOnOutDegreeOneGraphIsTheWalk", apart := false }
def FnShortestCycleOnOutDegreeOneGraphIsTheWalkSaid : Prop := fnShortestCycleOnOutDegreeOneGraphIsTheWalkRow.holds Try.pinned (OpenSpec.ofChange fnShortestCycleOnOutDegreeOneGraphIsTheWalkSpec)

/-- ITS FALSE NEIGHBOUR: 'it returns false'. Refute it at one input. -/
def fnShortestCycleOnOutDegreeOneGraphIsTheWalkWrong : ChangeSpec := { name := "fnShortestCycleOnOutDegreeOneGraphIsTheWalk", fn := fun _ => fun
  | [d1, d2, d3] => { results := [.lit (.bool false)], args := [d1, d2, d3] }
  | _ => none }
def FnShortestCycleOnOutDegreeOneGraphIsTheWalkWrongFalsely : Prop := fnShortestCycleOnOutDegreeOneGraphIsTheWalkRow.holds Try.pinned (OpenSpec.ofChange fnShortestCycleOnOutDegreeOneGraphIsTheWalkWrong)

/-- 'zzlaws_internal_history_b1.FnShortestCycleIsAShortestSimpleCycleThroughV': WHATEVER THE INPUT: true; the input reads as it did. -/
def fnShortestCycleIsAShortestSimpleCycleThroughVSpec : ChangeSpec := { name := "fnShortestCycleIsAShortestSimpleCycleThroughV", fn := fun _ => fun
  | [d1, d2] => { results := [.lit (.bool true)], args := [d1, d2] }
  | _ => none }
def fnShortestCycleIsAShortestSimpleCycleThroughVRow : OpenClaim := { program := "qxb6600485a", sum := "dd32502bdad1ec884ad9f6014c00bb503d081aba1f7754abc5d42500b4f59d92", func := "example.com/serialis/serialis/zzlaws_internal_history_b1.FnShortestCycleIsAShortestSimpleCycleThroughV", spec := "fnShortestCycleIsAShortestSimpleCycleThroughV", apart := false }
def FnShortestCycleIsAShortestSimpleCycleThroughVSaid : Prop := fnShortestCycleIsAShortestSimpleCycleThroughVRow.holds Try.pinned (OpenSpec.ofChange fnShortestCycleIsAShortestSimpleCycleThroughVSpec)

/-- ITS FALSE NEIGHBOUR: 'it returns false'. Refute it at one input. -/
def fnShortestCycleIsAShortestSimpleCycleThroughVWrong : ChangeSpec := { name := "fnShortestCycleIsAShortestSimpleCycleThroughV", fn := fun _ => fun
  | [d1, d2] => { results := [.lit (.bool false)], args := [d1, d2] }
  | _ => none }
def FnShortestCycleIsAShortestSimpleCycleThroughVWrongFalsely : Prop := fnShortestCycleIsAShortestSimpleCycleThroughVRow.holds Try.pinned (OpenSpec.ofChange fnShortestCycleIsAShortestSimpleCycleThroughVWrong)

end Rows
end Go.Proofs.Qxb6600485a
