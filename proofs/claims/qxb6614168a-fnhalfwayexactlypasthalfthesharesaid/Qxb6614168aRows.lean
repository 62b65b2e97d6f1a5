/-
  No cell of these rows narrows 'for every input' (looked for: loops, veiled, ifaces, maps, wideKeys, modest, calm, conditions, laid).
  DERIVED. THE GIVEN ROWS OF THIS SEAT. 1 by the template 'for every input the law returns true; each argument reads behind the call as it read before'; 0 by the template 'total and deterministic' (their statements: Qxb6614168aTotals.lean).
  GIVEN WITH THE SEED: the statements are not yours to turn. If you find one false, say at which input.
  Laid BY PROGRAM, IN A SANDBOX (cutbox-rows.mjs): the forced cells as the released guide's own fill.sh prints them over the translation a39e3fce4dad800e… (all of the seat's roots in one cut). By AI agents, Wed Nov 11 2026. No macro, syntax, notation, axiom, sorry.
-/
import Derived.Test.Qxb6614168aChecked
import GoSem.Claim
import GoSem.ClaimJoined
import GoSem.ClaimMapViews
import Derived.JoinedTies
import Derived.KernelRfl
namespace Go.Proofs.Qxb6614168a
/- THE CELL 'sum', in the pinned program and in every row, IS THE sha256 OF THE DUMP (.gsa) THAT Qxb6614168aProg.lean LOADS. Nothing in Lean hashes anything: it is a label: what it is worth is what the hold of that sum in a sandbox is worth. -/
noncomputable def Try.pinned : Pinned := { name := "qxb6614168a", sum := "a39e3fce4dad800efb52708178246cda7b5d804e0f36429aff68e28fcb098dc3", checked := Try.checked }
namespace Rows
def none {H : Type} : Left H := { results := [], args := [] }

/-- 'zzlaws_internal_session_b1.FnHalfwayExactlyPastHalfTheShare': WHATEVER THE INPUT: true; the input reads as it did. -/
def fnHalfwayExactlyPastHalfTheShareSpec : ChangeSpec := { name := "fnHalfwayExactlyPastHalfTheShare", fn := fun _ => fun
  | [d1, d2] => { results := [.lit (.bool true)], args := [d1, d2] }
  | _ => none }
def fnHalfwayExactlyPastHalfTheShareRow : OpenClaim := { program := "qxb6614168a", sum := "a39e3fce4dad800efb52708178246cda7b5d804e0f36429aff68e28fcb098dc3", func := "example.com/loomgraph/loomgraph/zzlaws_internal_session_b1.FnHalfwayExactlyPastHalfTheShare", spec := "fnHalfwayExactlyPastHalfTheShare", apart := false }
def FnHalfwayExactlyPastHalfTheShareSaid : Prop := fnHalfwayExactlyPastHalfTheShareRow.holds Try.pinned (OpenSpec.ofChange fnHalfwayExactlyPastHalfTheShareSpec)

/-- ITS FALSE NEIGHBOUR: 'it returns false'. Refute it at one input. -/
def fnHalfwayExactlyPastHalfTheShareWrong : ChangeSpec := { name := "fnHalfwayExactlyPastHalfTheShare", fn := fun _ => fun
  | [d1, d2] => { results := [.lit (.bool false)], args := [d1, d2] }
  | _ => none }
def FnHalfwayExactlyPastHalfTheShareWrongFalsely : Prop := fnHalfwayExactlyPastHalfTheShareRow.holds Try.pinned (OpenSpec.ofChange fnHalfwayExactlyPastHalfTheShareWrong)

end Rows
end Go.Proofs.Qxb6614168a
