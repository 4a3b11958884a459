/-
  No cell of these rows narrows 'for every input' (looked for: loops, veiled, ifaces, maps, wideKeys, modest, calm, conditions, laid).
  DERIVED. THE GIVEN ROWS OF THIS SEAT. 8 by the template 'for every input the law returns true; each argument reads behind the call as it read before'; 0 by the template 'total and deterministic' (their statements: Qxb6002705aTotals.lean).
  GIVEN WITH THE SEED: the statements are not yours to turn. If you find one false, say at which input.
  Laid BY PROGRAM, IN A SANDBOX (cutbox-rows.mjs): the forced cells as the released guide's own fill.sh prints them over the translation 64ecc3a20d392661… (all of the seat's roots in one cut). By AI agents, Wed Nov 11 2026. No macro, syntax, notation, axiom, sorry.
-/
import Derived.Test.Qxb6002705aChecked
import GoSem.Claim
import GoSem.ClaimJoined
import GoSem.ClaimMapViews
import Derived.JoinedTies
import Derived.KernelRfl
namespace Go.Proofs.Qxb6002705a
/- THE CELL 'sum', in the pinned program and in every row, IS THE sha256 OF THE DUMP (.gsa) THAT Qxb6002705aProg.lean LOADS. Nothing in Lean hashes anything: it is a label: what it is worth is what the hold of that sum in a sandbox is worth. -/
noncomputable def Try.pinned : Pinned := { name := "qxb6002705a", sum := "64ecc3a20d39266130b59edaad34c0c4b05a04ceddc5074d949b20a9db07132c", checked := Try.checked }
namespace Rows
def none {H : Type} : Left H := { results := [], args := [] }

/-- 'zzlaws_root_b1.FnCompareMatchesDominanceModel': WHATEVER THE INPUT: true; the input reads as it did. -/
def fnCompareMatchesDominanceModelSpec : ChangeSpec := { name := "fnCompareMatchesDominanceModel", fn := fun _ => fun
  | [d1, d2] => { results := [.lit (.bool true)], args := [d1, d2] }
  | _ => none }
def fnCompareMatchesDominanceModelRow : OpenClaim := { program := "qxb6002705a", sum := "64ecc3a20d39266130b59edaad34c0c4b05a04ceddc5074d949b20a9db07132c", func := "example.com/antecede/antecede/zzlaws_root_b1.FnCompareMatchesDominanceModel", spec := "fnCompareMatchesDominanceModel", apart := false }
def FnCompareMatchesDominanceModelSaid : Prop := fnCompareMatchesDominanceModelRow.holds Try.pinned (OpenSpec.ofChange fnCompareMatchesDominanceModelSpec)

/-- ITS FALSE NEIGHBOUR: 'it returns false'. Refute it at one input. -/
def fnCompareMatchesDominanceModelWrong : ChangeSpec := { name := "fnCompareMatchesDominanceModel", fn := fun _ => fun
  | [d1, d2] => { results := [.lit (.bool false)], args := [d1, d2] }
  | _ => none }
def FnCompareMatchesDominanceModelWrongFalsely : Prop := fnCompareMatchesDominanceModelRow.holds Try.pinned (OpenSpec.ofChange fnCompareMatchesDominanceModelWrong)

/-- 'zzlaws_root_b1.FnCompareIgnoresTrailingZeros': WHATEVER THE INPUT: true; the input reads as it did. -/
def fnCompareIgnoresTrailingZerosSpec : ChangeSpec := { name := "fnCompareIgnoresTrailingZeros", fn := fun _ => fun
  | [d1, d2, d3, d4] => { results := [.lit (.bool true)], args := [d1, d2, d3, d4] }
  | _ => none }
def fnCompareIgnoresTrailingZerosRow : OpenClaim := { program := "qxb6002705a", sum := "64ecc3a20d39266130b59edaad34c0c4b05a04ceddc5074d949b20a9db07132c", func := "example.com/antecede/antecede/zzlaws_root_b1.FnCompareIgnoresTrailingZeros", spec := "fnCompareIgnoresTrailingZeros", apart := false }
def FnCompareIgnoresTrailingZerosSaid : Prop := fnCompareIgnoresTrailingZerosRow.holds Try.pinned (OpenSpec.ofChange fnCompareIgnoresTrailingZerosSpec)

/-- ITS FALSE NEIGHBOUR: 'it returns false'. Refute it at one input. -/
def fnCompareIgnoresTrailingZerosWrong : ChangeSpec := { name := "fnCompareIgnoresTrailingZeros", fn := fun _ => fun
  | [d1, d2, d3, d4] => { results := [.lit (.bool false)], args := [d1, d2, d3, d4] }
  | _ => none }
def FnCompareIgnoresTrailingZerosWrongFalsely : Prop := fnCompareIgnoresTrailingZerosRow.holds Try.pinned (OpenSpec.ofChange fnCompareIgnoresTrailingZerosWrong)

/-- 'zzlaws_root_b1.FnCompareBeforeIsTransitive': WHATEVER THE INPUT: true; the input reads as it did. -/
def fnCompareBeforeIsTransitiveSpec : ChangeSpec := { name := "fnCompareBeforeIsTransitive", fn := fun _ => fun
  | [d1, d2, d3] => { results := [.lit (.bool true)], args := [d1, d2, d3] }
  | _ => none }
def fnCompareBeforeIsTransitiveRow : OpenClaim := { program := "qxb6002705a", sum := "64ecc3a20d39266130b59edaad34c0c4b05a04ceddc5074d949b20a9db07132c", func := "example.com/antecede/antecede/zzlaws_root_b1.FnCompareBeforeIsTransitive", spec := "fnCompareBeforeIsTransitive", apart := false }
def FnCompareBeforeIsTransitiveSaid : Prop := fnCompareBeforeIsTransitiveRow.holds Try.pinned (OpenSpec.ofChange fnCompareBeforeIsTransitiveSpec)

/-- ITS FALSE NEIGHBOUR: 'it returns false'. Refute it at one input. -/
def fnCompareBeforeIsTransitiveWrong : ChangeSpec := { name := "fnCompareBeforeIsTransitive", fn := fun _ => fun
  | [d1, d2, d3] => { results := [.lit (.bool false)], args := [d1, d2, d3] }
  | _ => none }
def FnCompareBeforeIsTransitiveWrongFalsely : Prop := fnCompareBeforeIsTransitiveRow.holds Try.pinned (OpenSpec.ofChange fnCompareBeforeIsTransitiveWrong)

/-- 'zzlaws_root_b1.FnRelevantTwiceHasOnlyItsOwnLastEvent': WHATEVER THE INPUT: true; the input reads as it did. -/
def fnRelevantTwiceHasOnlyItsOwnLastEventSpec : ChangeSpec := { name := "fnRelevantTwiceHasOnlyItsOwnLastEvent", fn := fun _ => fun
  | [d1, d2, d3, d4] => { results := [.lit (.bool true)], args := [d1, d2, d3, d4] }
  | _ => none }
def fnRelevantTwiceHasOnlyItsOwnLastEventRow : OpenClaim := { program := "qxb6002705a", sum := "64ecc3a20d39266130b59edaad34c0c4b05a04ceddc5074d949b20a9db07132c", func := "example.com/antecede/antecede/zzlaws_root_b1.FnRelevantTwiceHasOnlyItsOwnLastEvent", spec := "fnRelevantTwiceHasOnlyItsOwnLastEvent", apart := false }
def FnRelevantTwiceHasOnlyItsOwnLastEventSaid : Prop := fnRelevantTwiceHasOnlyItsOwnLastEventRow.holds Try.pinned (OpenSpec.ofChange fnRelevantTwiceHasOnlyItsOwnLastEventSpec)

/-- ITS FALSE NEIGHBOUR: 'it returns false'. Refute it at one input. -/
def fnRelevantTwiceHasOnlyItsOwnLastEventWrong : ChangeSpec := { name := "fnRelevantTwiceHasOnlyItsOwnLastEvent", fn := fun _ => fun
  | [d1, d2, d3, d4] => { results := [.lit (.bool false)], args := [d1, d2, d3, d4] }
  | _ => none }
def FnRelevantTwiceHasOnlyItsOwnLastEventWrongFalsely : Prop := fnRelevantTwiceHasOnlyItsOwnLastEventRow.holds Try.pinned (OpenSpec.ofChange fnRelevantTwiceHasOnlyItsOwnLastEventWrong)

/-- 'zzlaws_root_b1.FnRelevantAgreesWithNextClock': WHATEVER THE INPUT: true; the input reads as it did. -/
def fnRelevantAgreesWithNextClockSpec : ChangeSpec := { name := "fnRelevantAgreesWithNextClock", fn := fun _ => fun
  | [d1, d2, d3, d4] => { results := [.lit (.bool true)], args := [d1, d2, d3, d4] }
  | _ => none }
def fnRelevantAgreesWithNextClockRow : OpenClaim := { program := "qxb6002705a", sum := "64ecc3a20d39266130b59edaad34c0c4b05a04ceddc5074d949b20a9db07132c", func := "example.com/antecede/antecede/zzlaws_root_b1.FnRelevantAgreesWithNextClock", spec := "fnRelevantAgreesWithNextClock", apart := false }
def FnRelevantAgreesWithNextClockSaid : Prop := fnRelevantAgreesWithNextClockRow.holds Try.pinned (OpenSpec.ofChange fnRelevantAgreesWithNextClockSpec)

/-- ITS FALSE NEIGHBOUR: 'it returns false'. Refute it at one input. -/
def fnRelevantAgreesWithNextClockWrong : ChangeSpec := { name := "fnRelevantAgreesWithNextClock", fn := fun _ => fun
  | [d1, d2, d3, d4] => { results := [.lit (.bool false)], args := [d1, d2, d3, d4] }
  | _ => none }
def FnRelevantAgreesWithNextClockWrongFalsely : Prop := fnRelevantAgreesWithNextClockRow.holds Try.pinned (OpenSpec.ofChange fnRelevantAgreesWithNextClockWrong)

/-- 'zzlaws_root_b1.FnRelevantLeavesOwnColumnHoldingOnlyItself': WHATEVER THE INPUT: true; the input reads as it did. -/
def fnRelevantLeavesOwnColumnHoldingOnlyItselfSpec : ChangeSpec := { name := "fnRelevantLeavesOwnColumnHoldingOnlyItself", fn := fun _ => fun
  | [d1, d2, d3, d4] => { results := [.lit (.bool true)], args := [d1, d2, d3, d4] }
  | _ => none }
def fnRelevantLeavesOwnColumnHoldingOnlyItselfRow : OpenClaim := { program := "qxb6002705a", sum := "64ecc3a20d39266130b59edaad34c0c4b05a04ceddc5074d949b20a9db07132c", func := "example.com/antecede/antecede/zzlaws_root_b1.FnRelevantLeavesOwnColumnHoldingOnlyItself", spec := "fnRelevantLeavesOwnColumnHoldingOnlyItself", apart := false }
def FnRelevantLeavesOwnColumnHoldingOnlyItselfSaid : Prop := fnRelevantLeavesOwnColumnHoldingOnlyItselfRow.holds Try.pinned (OpenSpec.ofChange fnRelevantLeavesOwnColumnHoldingOnlyItselfSpec)

/-- ITS FALSE NEIGHBOUR: 'it returns false'. Refute it at one input. -/
def fnRelevantLeavesOwnColumnHoldingOnlyItselfWrong : ChangeSpec := { name := "fnRelevantLeavesOwnColumnHoldingOnlyItself", fn := fun _ => fun
  | [d1, d2, d3, d4] => { results := [.lit (.bool false)], args := [d1, d2, d3, d4] }
  | _ => none }
def FnRelevantLeavesOwnColumnHoldingOnlyItselfWrongFalsely : Prop := fnRelevantLeavesOwnColumnHoldingOnlyItselfRow.holds Try.pinned (OpenSpec.ofChange fnRelevantLeavesOwnColumnHoldingOnlyItselfWrong)

/-- 'zzlaws_root_b1.FnNewBoolMatrixAllTrueWithinN': WHATEVER THE INPUT: true; the input reads as it did. -/
def fnNewBoolMatrixAllTrueWithinNSpec : ChangeSpec := { name := "fnNewBoolMatrixAllTrueWithinN", fn := fun _ => fun
  | [d] => { results := [.lit (.bool true)], args := [d] }
  | _ => none }
def fnNewBoolMatrixAllTrueWithinNRow : OpenClaim := { program := "qxb6002705a", sum := "64ecc3a20d39266130b59edaad34c0c4b05a04ceddc5074d949b20a9db07132c", func := "example.com/antecede/antecede/zzlaws_root_b1.FnNewBoolMatrixAllTrueWithinN", spec := "fnNewBoolMatrixAllTrueWithinN", apart := false }
def FnNewBoolMatrixAllTrueWithinNSaid : Prop := fnNewBoolMatrixAllTrueWithinNRow.holds Try.pinned (OpenSpec.ofChange fnNewBoolMatrixAllTrueWithinNSpec)

/-- ITS FALSE NEIGHBOUR: 'it returns false'. Refute it at one input. -/
def fnNewBoolMatrixAllTrueWithinNWrong : ChangeSpec := { name := "fnNewBoolMatrixAllTrueWithinN", fn := fun _ => fun
  | [d] => { results := [.lit (.bool false)], args := [d] }
  | _ => none }
def FnNewBoolMatrixAllTrueWithinNWrongFalsely : Prop := fnNewBoolMatrixAllTrueWithinNRow.holds Try.pinned (OpenSpec.ofChange fnNewBoolMatrixAllTrueWithinNWrong)

/-- 'zzlaws_root_b1.FnNewBoolMatrixColumnsFitExactlyN': WHATEVER THE INPUT: true; the input reads as it did. -/
def fnNewBoolMatrixColumnsFitExactlyNSpec : ChangeSpec := { name := "fnNewBoolMatrixColumnsFitExactlyN", fn := fun _ => fun
  | [d] => { results := [.lit (.bool true)], args := [d] }
  | _ => none }
def fnNewBoolMatrixColumnsFitExactlyNRow : OpenClaim := { program := "qxb6002705a", sum := "64ecc3a20d39266130b59edaad34c0c4b05a04ceddc5074d949b20a9db07132c", func := "example.com/antecede/antecede/zzlaws_root_b1.FnNewBoolMatrixColumnsFitExactlyN", spec := "fnNewBoolMatrixColumnsFitExactlyN", apart := false }
def FnNewBoolMatrixColumnsFitExactlyNSaid : Prop := fnNewBoolMatrixColumnsFitExactlyNRow.holds Try.pinned (OpenSpec.ofChange fnNewBoolMatrixColumnsFitExactlyNSpec)

/-- ITS FALSE NEIGHBOUR: 'it returns false'. Refute it at one input. -/
def fnNewBoolMatrixColumnsFitExactlyNWrong : ChangeSpec := { name := "fnNewBoolMatrixColumnsFitExactlyN", fn := fun _ => fun
  | [d] => { results := [.lit (.bool false)], args := [d] }
  | _ => none }
def FnNewBoolMatrixColumnsFitExactlyNWrongFalsely : Prop := fnNewBoolMatrixColumnsFitExactlyNRow.holds Try.pinned (OpenSpec.ofChange fnNewBoolMatrixColumnsFitExactlyNWrong)

end Rows
end Go.Proofs.Qxb6002705a
