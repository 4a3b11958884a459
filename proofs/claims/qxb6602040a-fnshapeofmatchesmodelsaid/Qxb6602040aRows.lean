/-
  No cell of these rows narrows 'for every input' (looked for: loops, veiled, ifaces, maps, wideKeys, modest, calm, conditions, laid).
  DERIVED. THE GIVEN ROWS OF THIS SEAT. 2 by the template 'for every input the law returns true; each argument reads behind the call as it read before'; 0 by the template 'total and deterministic' (their statements: Qxb6602040aTotals.lean).
  GIVEN WITH THE SEED: the statements are not yours to turn. If you find one false, say at which input.
  Laid BY PROGRAM, IN A SANDBOX (cutbox-rows.mjs): the forced cells as the released guide's own fill.sh prints them over the translation 4b9d11dc6739c24e… (all of the seat's roots in one cut). By AI agents, Wed Nov 11 2026. No macro, syntax, notation, axiom, sorry.
-/
import Derived.Test.Qxb6602040aChecked
import GoSem.Claim
import GoSem.ClaimJoined
import GoSem.ClaimMapViews
import Derived.JoinedTies
import Derived.KernelRfl
namespace Go.Proofs.Qxb6602040a
/- THE CELL 'sum', in the pinned program and in every row, IS THE sha256 OF THE DUMP (.gsa) THAT Qxb6602040aProg.lean LOADS. Nothing in Lean hashes anything: it is a label: what it is worth is what the hold of that sum in a sandbox is worth. -/
noncomputable def Try.pinned : Pinned := { name := "qxb6602040a", sum := "4b9d11dc6739c24eba5a7985f447f0dd7d59b27d9484d23f36c66e1c4028c6f3", checked := Try.checked }
namespace Rows
def none {H : Type} : Left H := { results := [], args := [] }

/-- 'zzlaws_pkg_lock_b1.FnShapeOfMatchesModel': WHATEVER THE INPUT: true; the input reads as it did. -/
def fnShapeOfMatchesModelSpec : ChangeSpec := { name := "fnShapeOfMatchesModel", fn := fun _ => fun
  | [d] => { results := [.lit (.bool true)], args := [d] }
  | _ => none }
def fnShapeOfMatchesModelRow : OpenClaim := { program := "qxb6602040a", sum := "4b9d11dc6739c24eba5a7985f447f0dd7d59b27d9484d23f36c66e1c4028c6f3", func := "example.com/lockwarden/lockwarden/zzlaws_pkg_lock_b1.FnShapeOfMatchesModel", spec := "fnShapeOfMatchesModel", apart := false }
def FnShapeOfMatchesModelSaid : Prop := fnShapeOfMatchesModelRow.holds Try.pinned (OpenSpec.ofChange fnShapeOfMatchesModelSpec)

/-- ITS FALSE NEIGHBOUR: 'it returns false'. Refute it at one input. -/
def fnShapeOfMatchesModelWrong : ChangeSpec := { name := "fnShapeOfMatchesModel", fn := fun _ => fun
  | [d] => { results := [.lit (.bool false)], args := [d] }
  | _ => none }
def FnShapeOfMatchesModelWrongFalsely : Prop := fnShapeOfMatchesModelRow.holds Try.pinned (OpenSpec.ofChange fnShapeOfMatchesModelWrong)

/-- 'zzlaws_pkg_lock_b1.FnRankRoundTrip': WHATEVER THE INPUT: true; the input reads as it did. -/
def fnRankRoundTripSpec : ChangeSpec := { name := "fnRankRoundTrip", fn := fun _ => fun
  | [d] => { results := [.lit (.bool true)], args := [d] }
  | _ => none }
def fnRankRoundTripRow : OpenClaim := { program := "qxb6602040a", sum := "4b9d11dc6739c24eba5a7985f447f0dd7d59b27d9484d23f36c66e1c4028c6f3", func := "example.com/lockwarden/lockwarden/zzlaws_pkg_lock_b1.FnRankRoundTrip", spec := "fnRankRoundTrip", apart := false }
def FnRankRoundTripSaid : Prop := fnRankRoundTripRow.holds Try.pinned (OpenSpec.ofChange fnRankRoundTripSpec)

/-- ITS FALSE NEIGHBOUR: 'it returns false'. Refute it at one input. -/
def fnRankRoundTripWrong : ChangeSpec := { name := "fnRankRoundTrip", fn := fun _ => fun
  | [d] => { results := [.lit (.bool false)], args := [d] }
  | _ => none }
def FnRankRoundTripWrongFalsely : Prop := fnRankRoundTripRow.holds Try.pinned (OpenSpec.ofChange fnRankRoundTripWrong)

end Rows
end Go.Proofs.Qxb6602040a
