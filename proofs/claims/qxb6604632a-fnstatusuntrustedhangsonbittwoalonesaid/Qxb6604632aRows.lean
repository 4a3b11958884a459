/-
  No cell of these rows narrows 'for every input' (looked for: loops, veiled, ifaces, maps, wideKeys, modest, calm, conditions, laid).
  DERIVED. THE GIVEN ROWS OF THIS SEAT. 2 by the template 'for every input the law returns true; each argument reads behind the call as it read before'; 0 by the template 'total and deterministic' (their statements: Qxb6604632aTotals.lean).
  GIVEN WITH THE SEED: the statements are not yours to turn. If you find one false, say at which input.
  Laid BY PROGRAM, IN A SANDBOX (cutbox-rows.mjs): the forced cells as the released guide's own fill.sh prints them over the translation 66cc2168efb710c2… (all of the seat's roots in one cut). By AI agents, Wed Nov 11 2026. No macro, syntax, notation, axiom, sorry.
-/
import Derived.Test.Qxb6604632aChecked
import GoSem.Claim
import GoSem.ClaimJoined
import GoSem.ClaimMapViews
import Derived.JoinedTies
import Derived.KernelRfl
namespace Go.Proofs.Qxb6604632a
/- THE CELL 'sum', in the pinned program and in every row, IS THE sha256 OF THE DUMP (.gsa) THAT Qxb6604632aProg.lean LOADS. Nothing in Lean hashes anything: it is a label: what it is worth is what the hold of that sum in a sandbox is worth. -/
noncomputable def Try.pinned : Pinned := { name := "qxb6604632a", sum := "66cc2168efb710c214a8d92bdf0fbcdb864c5d3af0f5b1f825ac4cc19a05f3a9", checked := Try.checked }
namespace Rows
def none {H : Type} : Left H := { results := [], args := [] }

/-- 'zzlaws_em_b1.FnStatusUntrustedIsRemainderFourToSeven': WHATEVER THE INPUT: true; the input reads as it did. -/
def fnStatusUntrustedIsRemainderFourToSevenSpec : ChangeSpec := { name := "fnStatusUntrustedIsRemainderFourToSeven", fn := fun _ => fun
  | [d] => { results := [.lit (.bool true)], args := [d] }
  | _ => none }
def fnStatusUntrustedIsRemainderFourToSevenRow : OpenClaim := { program := "qxb6604632a", sum := "66cc2168efb710c214a8d92bdf0fbcdb864c5d3af0f5b1f825ac4cc19a05f3a9", func := "example.com/tallywire/tallywire/zzlaws_em_b1.FnStatusUntrustedIsRemainderFourToSeven", spec := "fnStatusUntrustedIsRemainderFourToSeven", apart := false }
def FnStatusUntrustedIsRemainderFourToSevenSaid : Prop := fnStatusUntrustedIsRemainderFourToSevenRow.holds Try.pinned (OpenSpec.ofChange fnStatusUntrustedIsRemainderFourToSevenSpec)

/-- ITS FALSE NEIGHBOUR: 'it returns false'. Refute it at one input. -/
def fnStatusUntrustedIsRemainderFourToSevenWrong : ChangeSpec := { name := "fnStatusUntrustedIsRemainderFourToSeven", fn := fun _ => fun
  | [d] => { results := [.lit (.bool false)], args := [d] }
  | _ => none }
def FnStatusUntrustedIsRemainderFourToSevenWrongFalsely : Prop := fnStatusUntrustedIsRemainderFourToSevenRow.holds Try.pinned (OpenSpec.ofChange fnStatusUntrustedIsRemainderFourToSevenWrong)

/-- 'zzlaws_em_b1.FnStatusUntrustedHangsOnBitTwoAlone': WHATEVER THE INPUT: true; the input reads as it did. -/
def fnStatusUntrustedHangsOnBitTwoAloneSpec : ChangeSpec := { name := "fnStatusUntrustedHangsOnBitTwoAlone", fn := fun _ => fun
  | [d1, d2] => { results := [.lit (.bool true)], args := [d1, d2] }
  | _ => none }
def fnStatusUntrustedHangsOnBitTwoAloneRow : OpenClaim := { program := "qxb6604632a", sum := "66cc2168efb710c214a8d92bdf0fbcdb864c5d3af0f5b1f825ac4cc19a05f3a9", func := "example.com/tallywire/tallywire/zzlaws_em_b1.FnStatusUntrustedHangsOnBitTwoAlone", spec := "fnStatusUntrustedHangsOnBitTwoAlone", apart := false }
def FnStatusUntrustedHangsOnBitTwoAloneSaid : Prop := fnStatusUntrustedHangsOnBitTwoAloneRow.holds Try.pinned (OpenSpec.ofChange fnStatusUntrustedHangsOnBitTwoAloneSpec)

/-- ITS FALSE NEIGHBOUR: 'it returns false'. Refute it at one input. -/
def fnStatusUntrustedHangsOnBitTwoAloneWrong : ChangeSpec := { name := "fnStatusUntrustedHangsOnBitTwoAlone", fn := fun _ => fun
  | [d1, d2] => { results := [.lit (.bool false)], args := [d1, d2] }
  | _ => none }
def FnStatusUntrustedHangsOnBitTwoAloneWrongFalsely : Prop := fnStatusUntrustedHangsOnBitTwoAloneRow.holds Try.pinned (OpenSpec.ofChange fnStatusUntrustedHangsOnBitTwoAloneWrong)

end Rows
end Go.Proofs.Qxb6604632a
