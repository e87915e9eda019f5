/-
  No cell of these rows narrows 'for every input' (looked for: loops, veiled, ifaces, maps, wideKeys, modest, calm, conditions, laid).
  DERIVED. THE GIVEN ROWS OF THIS SEAT. 6 by the template 'for every input the law returns true; each argument reads behind the call as it read before'; 0 by the template 'total and deterministic' (their statements: Qxb6603149aTotals.lean).
  GIVEN WITH THE SEED: the statements are not yours to turn. If you find one false, say at which input.
  Laid BY PROGRAM, IN A SANDBOX (cutbox-rows.mjs): the forced cells as the released guide's own fill.sh prints them over the translation 8331502a2b0b759e… (all of the seat's roots in one cut). By AI agents, Wed Nov 11 2026. No macro, syntax, notation, axiom, sorry.
-/
import Derived.Test.Qxb6603149aChecked
import GoSem.Claim
import GoSem.ClaimJoined
import GoSem.ClaimMapViews
import Derived.JoinedTies
import Derived.KernelRfl
namespace Go.Proofs.Qxb6603149a
/- THE CELL 'sum', in the pinned program and in every row, IS THE sha256 OF THE DUMP (.gsa) THAT Qxb6603149aProg.lean LOADS. Nothing in Lean hashes anything: it is a label: what it is worth is what the hold of that sum in a sandbox is worth. -/
noncomputable def Try.pinned : Pinned := { name := "qxb6603149a", sum := "8331502a2b0b759e6a0cb79fdfcbb77c8d436ccad0035b33b77dbd6231869466", checked := Try.checked }
namespace Rows
def none {H : Type} : Left H := { results := [], args := [] }

/-- 'zzlaws_risk_b1.FnBracketMatchesAutomaton': WHATEVER THE INPUT: true; the input reads as it did. -/
def fnBracketMatchesAutomatonSpec : ChangeSpec := { name := "fnBracketMatchesAutomaton", fn := fun _ => fun
  | [d1, d2, d3] => { results := [.lit (.bool true)], args := [d1, d2, d3] }
  | _ => none }
def fnBracketMatchesAutomatonRow : OpenClaim := { program := "qxb6603149a", sum := "8331502a2b0b759e6a0cb79fdfcbb77c8d436ccad0035b33b77dbd6231869466", func := "example.com/austere-exec/austere-exec/zzlaws_risk_b1.FnBracketMatchesAutomaton", spec := "fnBracketMatchesAutomaton", inPlace := ["internal/bytealg.IndexByteString", "internal/bytealg.IndexString"], named := ["internal/bytealg.MaxLen"], apart := false }
def FnBracketMatchesAutomatonSaid : Prop := fnBracketMatchesAutomatonRow.holds Try.pinned (OpenSpec.ofChange fnBracketMatchesAutomatonSpec)

/-- ITS FALSE NEIGHBOUR: 'it returns false'. Refute it at one input. -/
def fnBracketMatchesAutomatonWrong : ChangeSpec := { name := "fnBracketMatchesAutomaton", fn := fun _ => fun
  | [d1, d2, d3] => { results := [.lit (.bool false)], args := [d1, d2, d3] }
  | _ => none }
def FnBracketMatchesAutomatonWrongFalsely : Prop := fnBracketMatchesAutomatonRow.holds Try.pinned (OpenSpec.ofChange fnBracketMatchesAutomatonWrong)

/-- 'zzlaws_risk_b1.FnBracketCloseIsLocal': WHATEVER THE INPUT: true; the input reads as it did. -/
def fnBracketCloseIsLocalSpec : ChangeSpec := { name := "fnBracketCloseIsLocal", fn := fun _ => fun
  | [d1, d2, d3, d4] => { results := [.lit (.bool true)], args := [d1, d2, d3, d4] }
  | _ => none }
def fnBracketCloseIsLocalRow : OpenClaim := { program := "qxb6603149a", sum := "8331502a2b0b759e6a0cb79fdfcbb77c8d436ccad0035b33b77dbd6231869466", func := "example.com/austere-exec/austere-exec/zzlaws_risk_b1.FnBracketCloseIsLocal", spec := "fnBracketCloseIsLocal", inPlace := ["internal/bytealg.IndexByteString", "internal/bytealg.IndexString"], named := ["internal/bytealg.MaxLen"], apart := false }
def FnBracketCloseIsLocalSaid : Prop := fnBracketCloseIsLocalRow.holds Try.pinned (OpenSpec.ofChange fnBracketCloseIsLocalSpec)

/-- ITS FALSE NEIGHBOUR: 'it returns false'. Refute it at one input. -/
def fnBracketCloseIsLocalWrong : ChangeSpec := { name := "fnBracketCloseIsLocal", fn := fun _ => fun
  | [d1, d2, d3, d4] => { results := [.lit (.bool false)], args := [d1, d2, d3, d4] }
  | _ => none }
def FnBracketCloseIsLocalWrongFalsely : Prop := fnBracketCloseIsLocalRow.holds Try.pinned (OpenSpec.ofChange fnBracketCloseIsLocalWrong)

/-- 'zzlaws_risk_b1.FnBracketBlindPastNewline': WHATEVER THE INPUT: true; the input reads as it did. -/
def fnBracketBlindPastNewlineSpec : ChangeSpec := { name := "fnBracketBlindPastNewline", fn := fun _ => fun
  | [d1, d2, d3] => { results := [.lit (.bool true)], args := [d1, d2, d3] }
  | _ => none }
def fnBracketBlindPastNewlineRow : OpenClaim := { program := "qxb6603149a", sum := "8331502a2b0b759e6a0cb79fdfcbb77c8d436ccad0035b33b77dbd6231869466", func := "example.com/austere-exec/austere-exec/zzlaws_risk_b1.FnBracketBlindPastNewline", spec := "fnBracketBlindPastNewline", inPlace := ["internal/bytealg.IndexByteString", "internal/bytealg.IndexString"], named := ["internal/bytealg.MaxLen"], apart := false }
def FnBracketBlindPastNewlineSaid : Prop := fnBracketBlindPastNewlineRow.holds Try.pinned (OpenSpec.ofChange fnBracketBlindPastNewlineSpec)

/-- ITS FALSE NEIGHBOUR: 'it returns false'. Refute it at one input. -/
def fnBracketBlindPastNewlineWrong : ChangeSpec := { name := "fnBracketBlindPastNewline", fn := fun _ => fun
  | [d1, d2, d3] => { results := [.lit (.bool false)], args := [d1, d2, d3] }
  | _ => none }
def FnBracketBlindPastNewlineWrongFalsely : Prop := fnBracketBlindPastNewlineRow.holds Try.pinned (OpenSpec.ofChange fnBracketBlindPastNewlineWrong)

/-- 'zzlaws_risk_b1.FnDelimitedMatchesAutomaton': WHATEVER THE INPUT: true; the input reads as it did. -/
def fnDelimitedMatchesAutomatonSpec : ChangeSpec := { name := "fnDelimitedMatchesAutomaton", fn := fun _ => fun
  | [d1, d2, d3, d4, d5, d6] => { results := [.lit (.bool true)], args := [d1, d2, d3, d4, d5, d6] }
  | _ => none }
def fnDelimitedMatchesAutomatonRow : OpenClaim := { program := "qxb6603149a", sum := "8331502a2b0b759e6a0cb79fdfcbb77c8d436ccad0035b33b77dbd6231869466", func := "example.com/austere-exec/austere-exec/zzlaws_risk_b1.FnDelimitedMatchesAutomaton", spec := "fnDelimitedMatchesAutomaton", inPlace := ["internal/bytealg.IndexByteString", "internal/bytealg.IndexString"], named := ["internal/bytealg.MaxLen"], apart := false }
def FnDelimitedMatchesAutomatonSaid : Prop := fnDelimitedMatchesAutomatonRow.holds Try.pinned (OpenSpec.ofChange fnDelimitedMatchesAutomatonSpec)

/-- ITS FALSE NEIGHBOUR: 'it returns false'. Refute it at one input. -/
def fnDelimitedMatchesAutomatonWrong : ChangeSpec := { name := "fnDelimitedMatchesAutomaton", fn := fun _ => fun
  | [d1, d2, d3, d4, d5, d6] => { results := [.lit (.bool false)], args := [d1, d2, d3, d4, d5, d6] }
  | _ => none }
def FnDelimitedMatchesAutomatonWrongFalsely : Prop := fnDelimitedMatchesAutomatonRow.holds Try.pinned (OpenSpec.ofChange fnDelimitedMatchesAutomatonWrong)

/-- 'zzlaws_risk_b1.FnDelimitedBracketsOnlyReachFurther': WHATEVER THE INPUT: true; the input reads as it did. -/
def fnDelimitedBracketsOnlyReachFurtherSpec : ChangeSpec := { name := "fnDelimitedBracketsOnlyReachFurther", fn := fun _ => fun
  | [d1, d2, d3, d4, d5] => { results := [.lit (.bool true)], args := [d1, d2, d3, d4, d5] }
  | _ => none }
def fnDelimitedBracketsOnlyReachFurtherRow : OpenClaim := { program := "qxb6603149a", sum := "8331502a2b0b759e6a0cb79fdfcbb77c8d436ccad0035b33b77dbd6231869466", func := "example.com/austere-exec/austere-exec/zzlaws_risk_b1.FnDelimitedBracketsOnlyReachFurther", spec := "fnDelimitedBracketsOnlyReachFurther", inPlace := ["internal/bytealg.IndexByteString", "internal/bytealg.IndexString"], named := ["internal/bytealg.MaxLen"], apart := false }
def FnDelimitedBracketsOnlyReachFurtherSaid : Prop := fnDelimitedBracketsOnlyReachFurtherRow.holds Try.pinned (OpenSpec.ofChange fnDelimitedBracketsOnlyReachFurtherSpec)

/-- ITS FALSE NEIGHBOUR: 'it returns false'. Refute it at one input. -/
def fnDelimitedBracketsOnlyReachFurtherWrong : ChangeSpec := { name := "fnDelimitedBracketsOnlyReachFurther", fn := fun _ => fun
  | [d1, d2, d3, d4, d5] => { results := [.lit (.bool false)], args := [d1, d2, d3, d4, d5] }
  | _ => none }
def FnDelimitedBracketsOnlyReachFurtherWrongFalsely : Prop := fnDelimitedBracketsOnlyReachFurtherRow.holds Try.pinned (OpenSpec.ofChange fnDelimitedBracketsOnlyReachFurtherWrong)

/-- 'zzlaws_risk_b1.FnDelimitedEndIsLocal': WHATEVER THE INPUT: true; the input reads as it did. -/
def fnDelimitedEndIsLocalSpec : ChangeSpec := { name := "fnDelimitedEndIsLocal", fn := fun _ => fun
  | [d1, d2, d3, d4, d5, d6, d7] => { results := [.lit (.bool true)], args := [d1, d2, d3, d4, d5, d6, d7] }
  | _ => none }
def fnDelimitedEndIsLocalRow : OpenClaim := { program := "qxb6603149a", sum := "8331502a2b0b759e6a0cb79fdfcbb77c8d436ccad0035b33b77dbd6231869466", func := "example.com/austere-exec/austere-exec/zzlaws_risk_b1.FnDelimitedEndIsLocal", spec := "fnDelimitedEndIsLocal", inPlace := ["internal/bytealg.IndexByteString", "internal/bytealg.IndexString"], named := ["internal/bytealg.MaxLen"], apart := false }
def FnDelimitedEndIsLocalSaid : Prop := fnDelimitedEndIsLocalRow.holds Try.pinned (OpenSpec.ofChange fnDelimitedEndIsLocalSpec)

/-- ITS FALSE NEIGHBOUR: 'it returns false'. Refute it at one input. -/
def fnDelimitedEndIsLocalWrong : ChangeSpec := { name := "fnDelimitedEndIsLocal", fn := fun _ => fun
  | [d1, d2, d3, d4, d5, d6, d7] => { results := [.lit (.bool false)], args := [d1, d2, d3, d4, d5, d6, d7] }
  | _ => none }
def FnDelimitedEndIsLocalWrongFalsely : Prop := fnDelimitedEndIsLocalRow.holds Try.pinned (OpenSpec.ofChange fnDelimitedEndIsLocalWrong)

end Rows
end Go.Proofs.Qxb6603149a
