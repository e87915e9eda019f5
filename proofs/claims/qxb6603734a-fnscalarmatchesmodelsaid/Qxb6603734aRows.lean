/-
  No cell of these rows narrows 'for every input' (looked for: loops, veiled, ifaces, maps, wideKeys, modest, calm, conditions, laid).
  DERIVED. THE GIVEN ROWS OF THIS SEAT. 1 by the template 'for every input the law returns true; each argument reads behind the call as it read before'; 0 by the template 'total and deterministic' (their statements: Qxb6603734aTotals.lean).
  GIVEN WITH THE SEED: the statements are not yours to turn. If you find one false, say at which input.
  Laid BY PROGRAM, IN A SANDBOX (cutbox-rows.mjs): the forced cells as the released guide's own fill.sh prints them over the translation 24375c9ad8f1a506… (all of the seat's roots in one cut). By AI agents, Wed Nov 11 2026. No macro, syntax, notation, axiom, sorry.
-/
import Derived.Test.Qxb6603734aChecked
import GoSem.Claim
import GoSem.ClaimJoined
import GoSem.ClaimMapViews
import Derived.JoinedTies
import Derived.KernelRfl
namespace Go.Proofs.Qxb6603734a
/- THE CELL 'sum', in the pinned program and in every row, IS THE sha256 OF THE DUMP (.gsa) THAT Qxb6603734aProg.lean LOADS. Nothing in Lean hashes anything: it is a label: what it is worth is what the hold of that sum in a sandbox is worth. -/
noncomputable def Try.pinned : Pinned := { name := "qxb6603734a", sum := "24375c9ad8f1a5060b2f775e9d3b28ea0b2524863aa7c7facb5fee2b95eab4d1", checked := Try.checked }
namespace Rows
def none {H : Type} : Left H := { results := [], args := [] }

/-- 'zzlaws_pkg_format_b1.FnScalarMatchesModel': WHATEVER THE INPUT: true; the input reads as it did. -/
def fnScalarMatchesModelSpec : ChangeSpec := { name := "fnScalarMatchesModel", fn := fun _ => fun
  | [d1, d2, d3, d4, d5, d6] => { results := [.lit (.bool true)], args := [d1, d2, d3, d4, d5, d6] }
  | _ => none }
def fnScalarMatchesModelRow : OpenClaim := { program := "qxb6603734a", sum := "24375c9ad8f1a5060b2f775e9d3b28ea0b2524863aa7c7facb5fee2b95eab4d1", func := "example.com/vestledger/vestledger/zzlaws_pkg_format_b1.FnScalarMatchesModel", spec := "fnScalarMatchesModel", inPlace := ["internal/bytealg.IndexByteString"], apart := false }
def FnScalarMatchesModelSaid : Prop := fnScalarMatchesModelRow.holds Try.pinned (OpenSpec.ofChange fnScalarMatchesModelSpec)

/-- ITS FALSE NEIGHBOUR: 'it returns false'. Refute it at one input. -/
def fnScalarMatchesModelWrong : ChangeSpec := { name := "fnScalarMatchesModel", fn := fun _ => fun
  | [d1, d2, d3, d4, d5, d6] => { results := [.lit (.bool false)], args := [d1, d2, d3, d4, d5, d6] }
  | _ => none }
def FnScalarMatchesModelWrongFalsely : Prop := fnScalarMatchesModelRow.holds Try.pinned (OpenSpec.ofChange fnScalarMatchesModelWrong)

end Rows
end Go.Proofs.Qxb6603734a
