/-
  No cell of these rows narrows 'for every input' (looked for: loops, veiled, ifaces, maps, wideKeys, modest, calm, conditions, laid).
  DERIVED. THE GIVEN ROWS OF THIS SEAT. 2 by the template 'for every input the law returns true; each argument reads behind the call as it read before'; 0 by the template 'total and deterministic' (their statements: Qxb6613185aTotals.lean).
  GIVEN WITH THE SEED: the statements are not yours to turn. If you find one false, say at which input.
  Laid BY PROGRAM, IN A SANDBOX (cutbox-rows.mjs): the forced cells as the released guide's own fill.sh prints them over the translation 1b933957652a0438… (all of the seat's roots in one cut). By AI agents, Wed Nov 11 2026. No macro, syntax, notation, axiom, sorry.
-/
import Derived.Test.Qxb6613185aChecked
import GoSem.Claim
import GoSem.ClaimJoined
import GoSem.ClaimMapViews
import Derived.JoinedTies
import Derived.KernelRfl
namespace Go.Proofs.Qxb6613185a
/- THE CELL 'sum', in the pinned program and in every row, IS THE sha256 OF THE DUMP (.gsa) THAT Qxb6613185aProg.lean LOADS. Nothing in Lean hashes anything: it is a label: what it is worth is what the hold of that sum in a sandbox is worth. -/
noncomputable def Try.pinned : Pinned := { name := "qxb6613185a", sum := "1b933957652a04380a373c1868aa0bc8793a867b530666fcb3588b0601fb1b07", checked := Try.checked }
namespace Rows
def none {H : Type} : Left H := { results := [], args := [] }

/-- 'zzlaws_internal_sqlparse_b1.FnWalkVisitsEveryNodeInPreorderUntilStop': WHATEVER THE INPUT: true; the input reads as it did. -/
def fnWalkVisitsEveryNodeInPreorderUntilStopSpec : ChangeSpec := { name := "fnWalkVisitsEveryNodeInPreorderUntilStop", fn := fun _ => fun
  | [d1, d2, d3] => { results := [.lit (.bool true)], args := [d1, d2, d3] }
  | _ => none }
def fnWalkVisitsEveryNodeInPreorderUntilStopRow : OpenClaim := { program := "qxb6613185a", sum := "1b933957652a04380a373c1868aa0bc8793a867b530666fcb3588b0601fb1b07", func := "example.com/palimpsest/palimpsest/zzlaws_internal_sqlparse_b1.FnWalkVisitsEveryNodeInPreorderUntilStop", spec := "fnWalkVisitsEveryNodeInPreorderUntilStop", unfollowed := true, recurses := true, apart := false }
def FnWalkVisitsEveryNodeInPreorderUntilStopSaid : Prop := fnWalkVisitsEveryNodeInPreorderUntilStopRow.holds Try.pinned (OpenSpec.ofChange fnWalkVisitsEveryNodeInPreorderUntilStopSpec)

/-- ITS FALSE NEIGHBOUR: 'it returns false'. Refute it at one input. -/
def fnWalkVisitsEveryNodeInPreorderUntilStopWrong : ChangeSpec := { name := "fnWalkVisitsEveryNodeInPreorderUntilStop", fn := fun _ => fun
  | [d1, d2, d3] => { results := [.lit (.bool false)], args := [d1, d2, d3] }
  | _ => none }
def FnWalkVisitsEveryNodeInPreorderUntilStopWrongFalsely : Prop := fnWalkVisitsEveryNodeInPreorderUntilStopRow.holds Try.pinned (OpenSpec.ofChange fnWalkVisitsEveryNodeInPreorderUntilStopWrong)

/-- 'zzlaws_internal_sqlparse_b1.FnWalkOfBinaryIsNodeThenLeftThenRight': WHATEVER THE INPUT: true; the input reads as it did. -/
def fnWalkOfBinaryIsNodeThenLeftThenRightSpec : ChangeSpec := { name := "fnWalkOfBinaryIsNodeThenLeftThenRight", fn := fun _ => fun
  | [d1, d2, d3, d4] => { results := [.lit (.bool true)], args := [d1, d2, d3, d4] }
  | _ => none }
def fnWalkOfBinaryIsNodeThenLeftThenRightRow : OpenClaim := { program := "qxb6613185a", sum := "1b933957652a04380a373c1868aa0bc8793a867b530666fcb3588b0601fb1b07", func := "example.com/palimpsest/palimpsest/zzlaws_internal_sqlparse_b1.FnWalkOfBinaryIsNodeThenLeftThenRight", spec := "fnWalkOfBinaryIsNodeThenLeftThenRight", unfollowed := true, recurses := true, apart := false }
def FnWalkOfBinaryIsNodeThenLeftThenRightSaid : Prop := fnWalkOfBinaryIsNodeThenLeftThenRightRow.holds Try.pinned (OpenSpec.ofChange fnWalkOfBinaryIsNodeThenLeftThenRightSpec)

/-- ITS FALSE NEIGHBOUR: 'it returns false'. Refute it at one input. -/
def fnWalkOfBinaryIsNodeThenLeftThenRightWrong : ChangeSpec := { name := "fnWalkOfBinaryIsNodeThenLeftThenRight", fn := fun _ => fun
  | [d1, d2, d3, d4] => { results := [.lit (.bool false)], args := [d1, d2, d3, d4] }
  | _ => none }
def FnWalkOfBinaryIsNodeThenLeftThenRightWrongFalsely : Prop := fnWalkOfBinaryIsNodeThenLeftThenRightRow.holds Try.pinned (OpenSpec.ofChange fnWalkOfBinaryIsNodeThenLeftThenRightWrong)

end Rows
end Go.Proofs.Qxb6613185a
