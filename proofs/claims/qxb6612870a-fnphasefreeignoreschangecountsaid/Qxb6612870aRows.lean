/-
  No cell of these rows narrows 'for every input' (looked for: loops, veiled, ifaces, maps, wideKeys, modest, calm, conditions, laid).
  DERIVED. THE GIVEN ROWS OF THIS SEAT. 2 by the template 'for every input the law returns true; each argument reads behind the call as it read before'; 0 by the template 'total and deterministic' (their statements: Qxb6612870aTotals.lean).
  GIVEN WITH THE SEED: the statements are not yours to turn. If you find one false, say at which input.
  Laid BY PROGRAM, IN A SANDBOX (cutbox-rows.mjs): the forced cells as the released guide's own fill.sh prints them over the translation 7e0b7600206aae9f… (all of the seat's roots in one cut). By AI agents, Wed Nov 11 2026. No macro, syntax, notation, axiom, sorry.
-/
import Derived.Test.Qxb6612870aChecked
import GoSem.Claim
import GoSem.ClaimJoined
import GoSem.ClaimMapViews
import Derived.JoinedTies
import Derived.KernelRfl
namespace Go.Proofs.Qxb6612870a
/- THE CELL 'sum', in the pinned program and in every row, IS THE sha256 OF THE DUMP (.gsa) THAT Qxb6612870aProg.lean LOADS. Nothing in Lean hashes anything: it is a label: what it is worth is what the hold of that sum in a sandbox is worth. -/
noncomputable def Try.pinned : Pinned := { name := "qxb6612870a", sum := "7e0b7600206aae9ff538f47830c6e9c370684e0a36d6860e1595383303b92824", checked := Try.checked }
namespace Rows
def none {H : Type} : Left H := { results := [], args := [] }

/-- 'zzlaws_root_b1.FnPhaseFreeOneInFour': WHATEVER THE INPUT: true; the input reads as it did. -/
def fnPhaseFreeOneInFourSpec : ChangeSpec := { name := "fnPhaseFreeOneInFour", fn := fun _ => fun
  | [d] => { results := [.lit (.bool true)], args := [d] }
  | _ => none }
def fnPhaseFreeOneInFourRow : OpenClaim := { program := "qxb6612870a", sum := "7e0b7600206aae9ff538f47830c6e9c370684e0a36d6860e1595383303b92824", func := "example.com/tripline/tripline/zzlaws_root_b1.FnPhaseFreeOneInFour", spec := "fnPhaseFreeOneInFour", apart := false }
def FnPhaseFreeOneInFourSaid : Prop := fnPhaseFreeOneInFourRow.holds Try.pinned (OpenSpec.ofChange fnPhaseFreeOneInFourSpec)

/-- ITS FALSE NEIGHBOUR: 'it returns false'. Refute it at one input. -/
def fnPhaseFreeOneInFourWrong : ChangeSpec := { name := "fnPhaseFreeOneInFour", fn := fun _ => fun
  | [d] => { results := [.lit (.bool false)], args := [d] }
  | _ => none }
def FnPhaseFreeOneInFourWrongFalsely : Prop := fnPhaseFreeOneInFourRow.holds Try.pinned (OpenSpec.ofChange fnPhaseFreeOneInFourWrong)

/-- 'zzlaws_root_b1.FnPhaseFreeIgnoresChangeCount': WHATEVER THE INPUT: true; the input reads as it did. -/
def fnPhaseFreeIgnoresChangeCountSpec : ChangeSpec := { name := "fnPhaseFreeIgnoresChangeCount", fn := fun _ => fun
  | [d1, d2] => { results := [.lit (.bool true)], args := [d1, d2] }
  | _ => none }
def fnPhaseFreeIgnoresChangeCountRow : OpenClaim := { program := "qxb6612870a", sum := "7e0b7600206aae9ff538f47830c6e9c370684e0a36d6860e1595383303b92824", func := "example.com/tripline/tripline/zzlaws_root_b1.FnPhaseFreeIgnoresChangeCount", spec := "fnPhaseFreeIgnoresChangeCount", apart := false }
def FnPhaseFreeIgnoresChangeCountSaid : Prop := fnPhaseFreeIgnoresChangeCountRow.holds Try.pinned (OpenSpec.ofChange fnPhaseFreeIgnoresChangeCountSpec)

/-- ITS FALSE NEIGHBOUR: 'it returns false'. Refute it at one input. -/
def fnPhaseFreeIgnoresChangeCountWrong : ChangeSpec := { name := "fnPhaseFreeIgnoresChangeCount", fn := fun _ => fun
  | [d1, d2] => { results := [.lit (.bool false)], args := [d1, d2] }
  | _ => none }
def FnPhaseFreeIgnoresChangeCountWrongFalsely : Prop := fnPhaseFreeIgnoresChangeCountRow.holds Try.pinned (OpenSpec.ofChange fnPhaseFreeIgnoresChangeCountWrong)

end Rows
end Go.Proofs.Qxb6612870a
