/-
  No cell of these rows narrows 'for every input' (looked for: loops, veiled, ifaces, maps, wideKeys, modest, calm, conditions, laid).
  DERIVED. THE GIVEN ROWS OF THIS SEAT. 3 by the template 'for every input the law returns true; each argument reads behind the call as it read before'; 0 by the template 'total and deterministic' (their statements: Qxb6604027aTotals.lean).
  GIVEN WITH THE SEED: the statements are not yours to turn. If you find one false, say at which input.
  Laid BY PROGRAM, IN A SANDBOX (cutbox-rows.mjs): the forced cells as the released guide's own fill.sh prints them over the translation cf80dd138983fec5… (all of the seat's roots in one cut). By AI agents, Wed Nov 11 2026. No macro, syntax, notation, axiom, sorry.
-/
import Derived.Test.Qxb6604027aChecked
import GoSem.Claim
import GoSem.ClaimJoined
import GoSem.ClaimMapViews
import Derived.JoinedTies
import Derived.KernelRfl
namespace Go.Proofs.Qxb6604027a
/- THE CELL 'sum', in the pinned program and in every row, IS THE sha256 OF THE DUMP (.gsa) THAT Qxb6604027aProg.lean LOADS. Nothing in Lean hashes anything: it is a label: what it is worth is what the hold of that sum in a sandbox is worth. -/
noncomputable def Try.pinned : Pinned := { name := "qxb6604027a", sum := "cf80dd138983fec5bcb18c7ae26bc399c1221a199bc1e282ffb14c7d0522b985", checked := Try.checked }
namespace Rows
def none {H : Type} : Left H := { results := [], args := [] }

/-- 'zzlaws_internal_kvstate_b1.FnPrefixEndMatchesCarryModel': WHATEVER THE INPUT: true; the input reads as it did. -/
def fnPrefixEndMatchesCarryModelSpec : ChangeSpec := { name := "fnPrefixEndMatchesCarryModel", fn := fun _ => fun
  | [d] => { results := [.lit (.bool true)], args := [d] }
  | _ => none }
def fnPrefixEndMatchesCarryModelRow : OpenClaim := { program := "qxb6604027a", sum := "cf80dd138983fec5bcb18c7ae26bc399c1221a199bc1e282ffb14c7d0522b985", func := "example.com/window/window/zzlaws_internal_kvstate_b1.FnPrefixEndMatchesCarryModel", spec := "fnPrefixEndMatchesCarryModel", apart := false }
def FnPrefixEndMatchesCarryModelSaid : Prop := fnPrefixEndMatchesCarryModelRow.holds Try.pinned (OpenSpec.ofChange fnPrefixEndMatchesCarryModelSpec)

/-- ITS FALSE NEIGHBOUR: 'it returns false'. Refute it at one input. -/
def fnPrefixEndMatchesCarryModelWrong : ChangeSpec := { name := "fnPrefixEndMatchesCarryModel", fn := fun _ => fun
  | [d] => { results := [.lit (.bool false)], args := [d] }
  | _ => none }
def FnPrefixEndMatchesCarryModelWrongFalsely : Prop := fnPrefixEndMatchesCarryModelRow.holds Try.pinned (OpenSpec.ofChange fnPrefixEndMatchesCarryModelWrong)

/-- 'zzlaws_internal_kvstate_b1.FnPrefixEndBoundsThePrefixRange': WHATEVER THE INPUT: true; the input reads as it did. -/
def fnPrefixEndBoundsThePrefixRangeSpec : ChangeSpec := { name := "fnPrefixEndBoundsThePrefixRange", fn := fun _ => fun
  | [d1, d2] => { results := [.lit (.bool true)], args := [d1, d2] }
  | _ => none }
def fnPrefixEndBoundsThePrefixRangeRow : OpenClaim := { program := "qxb6604027a", sum := "cf80dd138983fec5bcb18c7ae26bc399c1221a199bc1e282ffb14c7d0522b985", func := "example.com/window/window/zzlaws_internal_kvstate_b1.FnPrefixEndBoundsThePrefixRange", spec := "fnPrefixEndBoundsThePrefixRange", apart := false }
def FnPrefixEndBoundsThePrefixRangeSaid : Prop := fnPrefixEndBoundsThePrefixRangeRow.holds Try.pinned (OpenSpec.ofChange fnPrefixEndBoundsThePrefixRangeSpec)

/-- ITS FALSE NEIGHBOUR: 'it returns false'. Refute it at one input. -/
def fnPrefixEndBoundsThePrefixRangeWrong : ChangeSpec := { name := "fnPrefixEndBoundsThePrefixRange", fn := fun _ => fun
  | [d1, d2] => { results := [.lit (.bool false)], args := [d1, d2] }
  | _ => none }
def FnPrefixEndBoundsThePrefixRangeWrongFalsely : Prop := fnPrefixEndBoundsThePrefixRangeRow.holds Try.pinned (OpenSpec.ofChange fnPrefixEndBoundsThePrefixRangeWrong)

/-- 'zzlaws_internal_kvstate_b1.FnIndexTailReadsBackBuiltKey': WHATEVER THE INPUT: true; the input reads as it did. -/
def fnIndexTailReadsBackBuiltKeySpec : ChangeSpec := { name := "fnIndexTailReadsBackBuiltKey", fn := fun _ => fun
  | [d1, d2, d3, d4] => { results := [.lit (.bool true)], args := [d1, d2, d3, d4] }
  | _ => none }
def fnIndexTailReadsBackBuiltKeyRow : OpenClaim := { program := "qxb6604027a", sum := "cf80dd138983fec5bcb18c7ae26bc399c1221a199bc1e282ffb14c7d0522b985", func := "example.com/window/window/zzlaws_internal_kvstate_b1.FnIndexTailReadsBackBuiltKey", spec := "fnIndexTailReadsBackBuiltKey", inPlace := ["internal/bytealg.IndexByte", "internal/bytealg.Index"], named := ["internal/bytealg.MaxLen"], apart := false }
def FnIndexTailReadsBackBuiltKeySaid : Prop := fnIndexTailReadsBackBuiltKeyRow.holds Try.pinned (OpenSpec.ofChange fnIndexTailReadsBackBuiltKeySpec)

/-- ITS FALSE NEIGHBOUR: 'it returns false'. Refute it at one input. -/
def fnIndexTailReadsBackBuiltKeyWrong : ChangeSpec := { name := "fnIndexTailReadsBackBuiltKey", fn := fun _ => fun
  | [d1, d2, d3, d4] => { results := [.lit (.bool false)], args := [d1, d2, d3, d4] }
  | _ => none }
def FnIndexTailReadsBackBuiltKeyWrongFalsely : Prop := fnIndexTailReadsBackBuiltKeyRow.holds Try.pinned (OpenSpec.ofChange fnIndexTailReadsBackBuiltKeyWrong)

end Rows
end Go.Proofs.Qxb6604027a
