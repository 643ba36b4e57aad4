/-
  No cell of these rows narrows 'for every input' (looked for: loops, veiled, ifaces, maps, wideKeys, modest, calm, conditions, laid).
  DERIVED. THE GIVEN ROWS OF THIS SEAT. 6 by the template 'for every input the law returns true; each argument reads behind the call as it read before'; 0 by the template 'total and deterministic' (their statements: Qxb6603944aTotals.lean).
  GIVEN WITH THE SEED: the statements are not yours to turn. If you find one false, say at which input.
  Laid BY PROGRAM, IN A SANDBOX (cutbox-rows.mjs): the forced cells as the released guide's own fill.sh prints them over the translation b199840fdad51cdd… (all of the seat's roots in one cut). By AI agents, Wed Nov 11 2026. No macro, syntax, notation, axiom, sorry.
-/
import Derived.Test.Qxb6603944aChecked
import GoSem.Claim
import GoSem.ClaimJoined
import GoSem.ClaimMapViews
import Derived.JoinedTies
import Derived.KernelRfl
namespace Go.Proofs.Qxb6603944a
/- THE CELL 'sum', in the pinned program and in every row, IS THE sha256 OF THE DUMP (.gsa) THAT Qxb6603944aProg.lean LOADS. Nothing in Lean hashes anything: it is a label: what it is worth is what the hold of that sum in a sandbox is worth. -/
noncomputable def Try.pinned : Pinned := { name := "qxb6603944a", sum := "b199840fdad51cdd8073c0d7ba81a5ef018055df697c5979d93c6dda9d9b03be", checked := Try.checked }
namespace Rows
def none {H : Type} : Left H := { results := [], args := [] }

/-- 'zzlaws_commission_b1.FnBonusExact': WHATEVER THE INPUT: true; the input reads as it did. -/
def fnBonusExactSpec : ChangeSpec := { name := "fnBonusExact", fn := fun _ => fun
  | [d1, d2, d3, d4, d5, d6, d7, d8] => { results := [.lit (.bool true)], args := [d1, d2, d3, d4, d5, d6, d7, d8] }
  | _ => none }
def fnBonusExactRow : OpenClaim := { program := "qxb6603944a", sum := "b199840fdad51cdd8073c0d7ba81a5ef018055df697c5979d93c6dda9d9b03be", func := "example.com/reseller-commission/reseller-commission/zzlaws_commission_b1.FnBonusExact", spec := "fnBonusExact", apart := false }
def FnBonusExactSaid : Prop := fnBonusExactRow.holds Try.pinned (OpenSpec.ofChange fnBonusExactSpec)

/-- ITS FALSE NEIGHBOUR: 'it returns false'. Refute it at one input. -/
def fnBonusExactWrong : ChangeSpec := { name := "fnBonusExact", fn := fun _ => fun
  | [d1, d2, d3, d4, d5, d6, d7, d8] => { results := [.lit (.bool false)], args := [d1, d2, d3, d4, d5, d6, d7, d8] }
  | _ => none }
def FnBonusExactWrongFalsely : Prop := fnBonusExactRow.holds Try.pinned (OpenSpec.ofChange fnBonusExactWrong)

/-- 'zzlaws_commission_b1.FnBonusDueClosedForm': WHATEVER THE INPUT: true; the input reads as it did. -/
def fnBonusDueClosedFormSpec : ChangeSpec := { name := "fnBonusDueClosedForm", fn := fun _ => fun
  | [d1, d2, d3, d4, d5, d6, d7, d8] => { results := [.lit (.bool true)], args := [d1, d2, d3, d4, d5, d6, d7, d8] }
  | _ => none }
def fnBonusDueClosedFormRow : OpenClaim := { program := "qxb6603944a", sum := "b199840fdad51cdd8073c0d7ba81a5ef018055df697c5979d93c6dda9d9b03be", func := "example.com/reseller-commission/reseller-commission/zzlaws_commission_b1.FnBonusDueClosedForm", spec := "fnBonusDueClosedForm", apart := false }
def FnBonusDueClosedFormSaid : Prop := fnBonusDueClosedFormRow.holds Try.pinned (OpenSpec.ofChange fnBonusDueClosedFormSpec)

/-- ITS FALSE NEIGHBOUR: 'it returns false'. Refute it at one input. -/
def fnBonusDueClosedFormWrong : ChangeSpec := { name := "fnBonusDueClosedForm", fn := fun _ => fun
  | [d1, d2, d3, d4, d5, d6, d7, d8] => { results := [.lit (.bool false)], args := [d1, d2, d3, d4, d5, d6, d7, d8] }
  | _ => none }
def FnBonusDueClosedFormWrongFalsely : Prop := fnBonusDueClosedFormRow.holds Try.pinned (OpenSpec.ofChange fnBonusDueClosedFormWrong)

/-- 'zzlaws_commission_b1.FnDueForcePrecedence': WHATEVER THE INPUT: true; the input reads as it did. -/
def fnDueForcePrecedenceSpec : ChangeSpec := { name := "fnDueForcePrecedence", fn := fun _ => fun
  | [d1, d2, d3] => { results := [.lit (.bool true)], args := [d1, d2, d3] }
  | _ => none }
def fnDueForcePrecedenceRow : OpenClaim := { program := "qxb6603944a", sum := "b199840fdad51cdd8073c0d7ba81a5ef018055df697c5979d93c6dda9d9b03be", func := "example.com/reseller-commission/reseller-commission/zzlaws_commission_b1.FnDueForcePrecedence", spec := "fnDueForcePrecedence", apart := false }
def FnDueForcePrecedenceSaid : Prop := fnDueForcePrecedenceRow.holds Try.pinned (OpenSpec.ofChange fnDueForcePrecedenceSpec)

/-- ITS FALSE NEIGHBOUR: 'it returns false'. Refute it at one input. -/
def fnDueForcePrecedenceWrong : ChangeSpec := { name := "fnDueForcePrecedence", fn := fun _ => fun
  | [d1, d2, d3] => { results := [.lit (.bool false)], args := [d1, d2, d3] }
  | _ => none }
def FnDueForcePrecedenceWrongFalsely : Prop := fnDueForcePrecedenceRow.holds Try.pinned (OpenSpec.ofChange fnDueForcePrecedenceWrong)

/-- 'zzlaws_commission_b1.FnDueForceNormalIdempotent': WHATEVER THE INPUT: true; the input reads as it did. -/
def fnDueForceNormalIdempotentSpec : ChangeSpec := { name := "fnDueForceNormalIdempotent", fn := fun _ => fun
  | [d1, d2, d3] => { results := [.lit (.bool true)], args := [d1, d2, d3] }
  | _ => none }
def fnDueForceNormalIdempotentRow : OpenClaim := { program := "qxb6603944a", sum := "b199840fdad51cdd8073c0d7ba81a5ef018055df697c5979d93c6dda9d9b03be", func := "example.com/reseller-commission/reseller-commission/zzlaws_commission_b1.FnDueForceNormalIdempotent", spec := "fnDueForceNormalIdempotent", apart := false }
def FnDueForceNormalIdempotentSaid : Prop := fnDueForceNormalIdempotentRow.holds Try.pinned (OpenSpec.ofChange fnDueForceNormalIdempotentSpec)

/-- ITS FALSE NEIGHBOUR: 'it returns false'. Refute it at one input. -/
def fnDueForceNormalIdempotentWrong : ChangeSpec := { name := "fnDueForceNormalIdempotent", fn := fun _ => fun
  | [d1, d2, d3] => { results := [.lit (.bool false)], args := [d1, d2, d3] }
  | _ => none }
def FnDueForceNormalIdempotentWrongFalsely : Prop := fnDueForceNormalIdempotentRow.holds Try.pinned (OpenSpec.ofChange fnDueForceNormalIdempotentWrong)

/-- 'zzlaws_commission_b1.FnChainCreditsExact': WHATEVER THE INPUT: true; the input reads as it did. -/
def fnChainCreditsExactSpec : ChangeSpec := { name := "fnChainCreditsExact", fn := fun _ => fun
  | [d1, d2, d3, d4, d5] => { results := [.lit (.bool true)], args := [d1, d2, d3, d4, d5] }
  | _ => none }
def fnChainCreditsExactRow : OpenClaim := { program := "qxb6603944a", sum := "b199840fdad51cdd8073c0d7ba81a5ef018055df697c5979d93c6dda9d9b03be", func := "example.com/reseller-commission/reseller-commission/zzlaws_commission_b1.FnChainCreditsExact", spec := "fnChainCreditsExact", apart := false }
def FnChainCreditsExactSaid : Prop := fnChainCreditsExactRow.holds Try.pinned (OpenSpec.ofChange fnChainCreditsExactSpec)

/-- ITS FALSE NEIGHBOUR: 'it returns false'. Refute it at one input. -/
def fnChainCreditsExactWrong : ChangeSpec := { name := "fnChainCreditsExact", fn := fun _ => fun
  | [d1, d2, d3, d4, d5] => { results := [.lit (.bool false)], args := [d1, d2, d3, d4, d5] }
  | _ => none }
def FnChainCreditsExactWrongFalsely : Prop := fnChainCreditsExactRow.holds Try.pinned (OpenSpec.ofChange fnChainCreditsExactWrong)

/-- 'zzlaws_commission_b1.FnChainCreditsConserve': WHATEVER THE INPUT: true; the input reads as it did. -/
def fnChainCreditsConserveSpec : ChangeSpec := { name := "fnChainCreditsConserve", fn := fun _ => fun
  | [d1, d2, d3, d4, d5] => { results := [.lit (.bool true)], args := [d1, d2, d3, d4, d5] }
  | _ => none }
def fnChainCreditsConserveRow : OpenClaim := { program := "qxb6603944a", sum := "b199840fdad51cdd8073c0d7ba81a5ef018055df697c5979d93c6dda9d9b03be", func := "example.com/reseller-commission/reseller-commission/zzlaws_commission_b1.FnChainCreditsConserve", spec := "fnChainCreditsConserve", apart := false }
def FnChainCreditsConserveSaid : Prop := fnChainCreditsConserveRow.holds Try.pinned (OpenSpec.ofChange fnChainCreditsConserveSpec)

/-- ITS FALSE NEIGHBOUR: 'it returns false'. Refute it at one input. -/
def fnChainCreditsConserveWrong : ChangeSpec := { name := "fnChainCreditsConserve", fn := fun _ => fun
  | [d1, d2, d3, d4, d5] => { results := [.lit (.bool false)], args := [d1, d2, d3, d4, d5] }
  | _ => none }
def FnChainCreditsConserveWrongFalsely : Prop := fnChainCreditsConserveRow.holds Try.pinned (OpenSpec.ofChange fnChainCreditsConserveWrong)

end Rows
end Go.Proofs.Qxb6603944a
