/-
  No cell of these rows narrows 'for every input' (looked for: loops, veiled, ifaces, maps, wideKeys, modest, calm, conditions, laid).
  DERIVED. THE GIVEN ROWS OF THIS SEAT. 2 by the template 'for every input the law returns true; each argument reads behind the call as it read before'; 0 by the template 'total and deterministic' (their statements: Qxb6603465aTotals.lean).
  GIVEN WITH THE SEED: the statements are not yours to turn. If you find one false, say at which input.
  Laid BY PROGRAM, IN A SANDBOX (cutbox-rows.mjs): the forced cells as the released guide's own fill.sh prints them over the translation 3f5ba2d11fc5adc1… (all of the seat's roots in one cut). By AI agents, Wed Nov 11 2026. No macro, syntax, notation, axiom, sorry.
-/
import Derived.Test.Qxb6603465aChecked
import GoSem.Claim
import GoSem.ClaimJoined
import GoSem.ClaimMapViews
import Derived.JoinedTies
import Derived.KernelRfl
namespace Go.Proofs.Qxb6603465a
/- THE CELL 'sum', in the pinned program and in every row, IS THE sha256 OF THE DUMP (.gsa) THAT Qxb6603465aProg.lean LOADS. Nothing in Lean hashes anything: it is a label: what it is worth is what the hold of that sum in a sandbox is worth. -/
noncomputable def Try.pinned : Pinned := { name := "qxb6603465a", sum := "3f5ba2d11fc5adc17a8c3d3448d0b3f6fe7949922aa11f310ca9fd57d3ebf631", checked := Try.checked }
namespace Rows
def none {H : Type} : Left H := { results := [], args := [] }

/-- 'zzlaws_internal_shell_b1.FnDelimiterQuotedReadsBackItsQuoting': WHATEVER THE INPUT: true; the input reads as it did. -/
def fnDelimiterQuotedReadsBackItsQuotingSpec : ChangeSpec := { name := "fnDelimiterQuotedReadsBackItsQuoting", fn := fun _ => fun
  | [d1, d2, d3] => { results := [.lit (.bool true)], args := [d1, d2, d3] }
  | _ => none }
def fnDelimiterQuotedReadsBackItsQuotingRow : OpenClaim := { program := "qxb6603465a", sum := "3f5ba2d11fc5adc17a8c3d3448d0b3f6fe7949922aa11f310ca9fd57d3ebf631", func := "example.com/amber-relay/amber-relay/zzlaws_internal_shell_b1.FnDelimiterQuotedReadsBackItsQuoting", spec := "fnDelimiterQuotedReadsBackItsQuoting", inPlace := ["internal/abi.NoEscape", "internal/bytealg.IndexByteString"], apart := false }
def FnDelimiterQuotedReadsBackItsQuotingSaid : Prop := fnDelimiterQuotedReadsBackItsQuotingRow.holds Try.pinned (OpenSpec.ofChange fnDelimiterQuotedReadsBackItsQuotingSpec)

/-- ITS FALSE NEIGHBOUR: 'it returns false'. Refute it at one input. -/
def fnDelimiterQuotedReadsBackItsQuotingWrong : ChangeSpec := { name := "fnDelimiterQuotedReadsBackItsQuoting", fn := fun _ => fun
  | [d1, d2, d3] => { results := [.lit (.bool false)], args := [d1, d2, d3] }
  | _ => none }
def FnDelimiterQuotedReadsBackItsQuotingWrongFalsely : Prop := fnDelimiterQuotedReadsBackItsQuotingRow.holds Try.pinned (OpenSpec.ofChange fnDelimiterQuotedReadsBackItsQuotingWrong)

/-- 'zzlaws_internal_shell_b1.FnDelimiterQuotedSingleIsVerbatim': WHATEVER THE INPUT: true; the input reads as it did. -/
def fnDelimiterQuotedSingleIsVerbatimSpec : ChangeSpec := { name := "fnDelimiterQuotedSingleIsVerbatim", fn := fun _ => fun
  | [d1, d2, d3, d4, d5, d6, d7, d8] => { results := [.lit (.bool true)], args := [d1, d2, d3, d4, d5, d6, d7, d8] }
  | _ => none }
def fnDelimiterQuotedSingleIsVerbatimRow : OpenClaim := { program := "qxb6603465a", sum := "3f5ba2d11fc5adc17a8c3d3448d0b3f6fe7949922aa11f310ca9fd57d3ebf631", func := "example.com/amber-relay/amber-relay/zzlaws_internal_shell_b1.FnDelimiterQuotedSingleIsVerbatim", spec := "fnDelimiterQuotedSingleIsVerbatim", inPlace := ["internal/abi.NoEscape", "internal/bytealg.IndexByteString"], apart := false }
def FnDelimiterQuotedSingleIsVerbatimSaid : Prop := fnDelimiterQuotedSingleIsVerbatimRow.holds Try.pinned (OpenSpec.ofChange fnDelimiterQuotedSingleIsVerbatimSpec)

/-- ITS FALSE NEIGHBOUR: 'it returns false'. Refute it at one input. -/
def fnDelimiterQuotedSingleIsVerbatimWrong : ChangeSpec := { name := "fnDelimiterQuotedSingleIsVerbatim", fn := fun _ => fun
  | [d1, d2, d3, d4, d5, d6, d7, d8] => { results := [.lit (.bool false)], args := [d1, d2, d3, d4, d5, d6, d7, d8] }
  | _ => none }
def FnDelimiterQuotedSingleIsVerbatimWrongFalsely : Prop := fnDelimiterQuotedSingleIsVerbatimRow.holds Try.pinned (OpenSpec.ofChange fnDelimiterQuotedSingleIsVerbatimWrong)

end Rows
end Go.Proofs.Qxb6603465a
