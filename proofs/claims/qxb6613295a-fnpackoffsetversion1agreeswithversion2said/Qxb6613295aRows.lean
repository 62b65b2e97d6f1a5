/-
  No cell of these rows narrows 'for every input' (looked for: loops, veiled, ifaces, maps, wideKeys, modest, calm, conditions, laid).
  DERIVED. THE GIVEN ROWS OF THIS SEAT. 1 by the template 'for every input the law returns true; each argument reads behind the call as it read before'; 0 by the template 'total and deterministic' (their statements: Qxb6613295aTotals.lean).
  GIVEN WITH THE SEED: the statements are not yours to turn. If you find one false, say at which input.
  Laid BY PROGRAM, IN A SANDBOX (cutbox-rows.mjs): the forced cells as the released guide's own fill.sh prints them over the translation e8d5a5f1c61fb228… (all of the seat's roots in one cut). By AI agents, Wed Nov 11 2026. No macro, syntax, notation, axiom, sorry.
-/
import Derived.Test.Qxb6613295aChecked
import GoSem.Claim
import GoSem.ClaimJoined
import GoSem.ClaimMapViews
import Derived.JoinedTies
import Derived.KernelRfl
namespace Go.Proofs.Qxb6613295a
/- THE CELL 'sum', in the pinned program and in every row, IS THE sha256 OF THE DUMP (.gsa) THAT Qxb6613295aProg.lean LOADS. Nothing in Lean hashes anything: it is a label: what it is worth is what the hold of that sum in a sandbox is worth. -/
noncomputable def Try.pinned : Pinned := { name := "qxb6613295a", sum := "e8d5a5f1c61fb228118ae582d40686b05b63e39b5d011bfdc9528f46abdd9b9d", checked := Try.checked }
namespace Rows
def none {H : Type} : Left H := { results := [], args := [] }

/-- 'zzlaws_internal_repo_b1.FnPackOffsetVersion1AgreesWithVersion2': WHATEVER THE INPUT: true; the input reads as it did. -/
def fnPackOffsetVersion1AgreesWithVersion2Spec : ChangeSpec := { name := "fnPackOffsetVersion1AgreesWithVersion2", fn := fun _ => fun
  | [d1, d2, d3, d4] => { results := [.lit (.bool true)], args := [d1, d2, d3, d4] }
  | _ => none }
def fnPackOffsetVersion1AgreesWithVersion2Row : OpenClaim := { program := "qxb6613295a", sum := "e8d5a5f1c61fb228118ae582d40686b05b63e39b5d011bfdc9528f46abdd9b9d", func := "example.com/plumbline/plumbline/zzlaws_internal_repo_b1.FnPackOffsetVersion1AgreesWithVersion2", spec := "fnPackOffsetVersion1AgreesWithVersion2", named := ["encoding/binary.BigEndian"], plainKeys := false, apart := false }
def FnPackOffsetVersion1AgreesWithVersion2Said : Prop := fnPackOffsetVersion1AgreesWithVersion2Row.holds Try.pinned (OpenSpec.ofChange fnPackOffsetVersion1AgreesWithVersion2Spec)

/-- ITS FALSE NEIGHBOUR: 'it returns false'. Refute it at one input. -/
def fnPackOffsetVersion1AgreesWithVersion2Wrong : ChangeSpec := { name := "fnPackOffsetVersion1AgreesWithVersion2", fn := fun _ => fun
  | [d1, d2, d3, d4] => { results := [.lit (.bool false)], args := [d1, d2, d3, d4] }
  | _ => none }
def FnPackOffsetVersion1AgreesWithVersion2WrongFalsely : Prop := fnPackOffsetVersion1AgreesWithVersion2Row.holds Try.pinned (OpenSpec.ofChange fnPackOffsetVersion1AgreesWithVersion2Wrong)

end Rows
end Go.Proofs.Qxb6613295a
