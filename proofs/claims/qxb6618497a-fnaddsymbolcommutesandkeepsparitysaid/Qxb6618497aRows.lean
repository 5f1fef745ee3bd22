/-
  No cell of these rows narrows 'for every input' (looked for: loops, veiled, ifaces, maps, wideKeys, modest, calm, conditions, laid).
  DERIVED. THE GIVEN ROWS OF THIS SEAT. 4 by the template 'for every input the law returns true; each argument reads behind the call as it read before'; 0 by the template 'total and deterministic' (their statements: Qxb6618497aTotals.lean).
  GIVEN WITH THE SEED: the statements are not yours to turn. If you find one false, say at which input.
  Laid BY PROGRAM, IN A SANDBOX (cutbox-rows.mjs): the forced cells as the released guide's own fill.sh prints them over the translation 235b599b19e36899… (all of the seat's roots in one cut). By AI agents, Wed Nov 11 2026. No macro, syntax, notation, axiom, sorry.
-/
import Derived.Test.Qxb6618497aChecked
import GoSem.Claim
import GoSem.ClaimJoined
import GoSem.ClaimMapViews
import Derived.JoinedTies
import Derived.KernelRfl
namespace Go.Proofs.Qxb6618497a
/- THE CELL 'sum', in the pinned program and in every row, IS THE sha256 OF THE DUMP (.gsa) THAT Qxb6618497aProg.lean LOADS. Nothing in Lean hashes anything: it is a label: what it is worth is what the hold of that sum in a sandbox is worth. -/
noncomputable def Try.pinned : Pinned := { name := "qxb6618497a", sum := "235b599b19e3689990b1bb93f9ab9878ff3e3ffa16ca8f769adde9dd80ee6179", checked := Try.checked }
namespace Rows
def none {H : Type} : Left H := { results := [], args := [] }

/-- 'zzlaws_fountain_b1.FnSummedByTilesRows': WHATEVER THE INPUT: true; the input reads as it did. -/
def fnSummedByTilesRowsSpec : ChangeSpec := { name := "fnSummedByTilesRows", fn := fun _ => fun
  | [d1, d2] => { results := [.lit (.bool true)], args := [d1, d2] }
  | _ => none }
def fnSummedByTilesRowsRow : OpenClaim := { program := "qxb6618497a", sum := "235b599b19e3689990b1bb93f9ab9878ff3e3ffa16ca8f769adde9dd80ee6179", func := "example.com/ferryline/ferryline/zzlaws_fountain_b1.FnSummedByTilesRows", spec := "fnSummedByTilesRows", apart := false }
def FnSummedByTilesRowsSaid : Prop := fnSummedByTilesRowsRow.holds Try.pinned (OpenSpec.ofChange fnSummedByTilesRowsSpec)

/-- ITS FALSE NEIGHBOUR: 'it returns false'. Refute it at one input. -/
def fnSummedByTilesRowsWrong : ChangeSpec := { name := "fnSummedByTilesRows", fn := fun _ => fun
  | [d1, d2] => { results := [.lit (.bool false)], args := [d1, d2] }
  | _ => none }
def FnSummedByTilesRowsWrongFalsely : Prop := fnSummedByTilesRowsRow.holds Try.pinned (OpenSpec.ofChange fnSummedByTilesRowsWrong)

/-- 'zzlaws_fountain_b1.FnNextWhereTakesLastBelow': WHATEVER THE INPUT: true; the input reads as it did. -/
def fnNextWhereTakesLastBelowSpec : ChangeSpec := { name := "fnNextWhereTakesLastBelow", fn := fun _ => fun
  | [d1, d2] => { results := [.lit (.bool true)], args := [d1, d2] }
  | _ => none }
def fnNextWhereTakesLastBelowRow : OpenClaim := { program := "qxb6618497a", sum := "235b599b19e3689990b1bb93f9ab9878ff3e3ffa16ca8f769adde9dd80ee6179", func := "example.com/ferryline/ferryline/zzlaws_fountain_b1.FnNextWhereTakesLastBelow", spec := "fnNextWhereTakesLastBelow", unfollowed := true, recurses := true, apart := false }
def FnNextWhereTakesLastBelowSaid : Prop := fnNextWhereTakesLastBelowRow.holds Try.pinned (OpenSpec.ofChange fnNextWhereTakesLastBelowSpec)

/-- ITS FALSE NEIGHBOUR: 'it returns false'. Refute it at one input. -/
def fnNextWhereTakesLastBelowWrong : ChangeSpec := { name := "fnNextWhereTakesLastBelow", fn := fun _ => fun
  | [d1, d2] => { results := [.lit (.bool false)], args := [d1, d2] }
  | _ => none }
def FnNextWhereTakesLastBelowWrongFalsely : Prop := fnNextWhereTakesLastBelowRow.holds Try.pinned (OpenSpec.ofChange fnNextWhereTakesLastBelowWrong)

/-- 'zzlaws_fountain_b1.FnNextWhereDrainsBelowInReverse': WHATEVER THE INPUT: true; the input reads as it did. -/
def fnNextWhereDrainsBelowInReverseSpec : ChangeSpec := { name := "fnNextWhereDrainsBelowInReverse", fn := fun _ => fun
  | [d1, d2] => { results := [.lit (.bool true)], args := [d1, d2] }
  | _ => none }
def fnNextWhereDrainsBelowInReverseRow : OpenClaim := { program := "qxb6618497a", sum := "235b599b19e3689990b1bb93f9ab9878ff3e3ffa16ca8f769adde9dd80ee6179", func := "example.com/ferryline/ferryline/zzlaws_fountain_b1.FnNextWhereDrainsBelowInReverse", spec := "fnNextWhereDrainsBelowInReverse", unfollowed := true, recurses := true, apart := false }
def FnNextWhereDrainsBelowInReverseSaid : Prop := fnNextWhereDrainsBelowInReverseRow.holds Try.pinned (OpenSpec.ofChange fnNextWhereDrainsBelowInReverseSpec)

/-- ITS FALSE NEIGHBOUR: 'it returns false'. Refute it at one input. -/
def fnNextWhereDrainsBelowInReverseWrong : ChangeSpec := { name := "fnNextWhereDrainsBelowInReverse", fn := fun _ => fun
  | [d1, d2] => { results := [.lit (.bool false)], args := [d1, d2] }
  | _ => none }
def FnNextWhereDrainsBelowInReverseWrongFalsely : Prop := fnNextWhereDrainsBelowInReverseRow.holds Try.pinned (OpenSpec.ofChange fnNextWhereDrainsBelowInReverseWrong)

/-- 'zzlaws_fountain_b1.FnAddSymbolCommutesAndKeepsParity': WHATEVER THE INPUT: true; the input reads as it did. -/
def fnAddSymbolCommutesAndKeepsParitySpec : ChangeSpec := { name := "fnAddSymbolCommutesAndKeepsParity", fn := fun _ => fun
  | [d1, d2] => { results := [.lit (.bool true)], args := [d1, d2] }
  | _ => none }
def fnAddSymbolCommutesAndKeepsParityRow : OpenClaim := { program := "qxb6618497a", sum := "235b599b19e3689990b1bb93f9ab9878ff3e3ffa16ca8f769adde9dd80ee6179", func := "example.com/ferryline/ferryline/zzlaws_fountain_b1.FnAddSymbolCommutesAndKeepsParity", spec := "fnAddSymbolCommutesAndKeepsParity", inPlace := ["crypto/internal/fips140/alias.AnyOverlap", "crypto/internal/fips140/subtle.xorBytes"], apart := false }
def FnAddSymbolCommutesAndKeepsParitySaid : Prop := fnAddSymbolCommutesAndKeepsParityRow.holds Try.pinned (OpenSpec.ofChange fnAddSymbolCommutesAndKeepsParitySpec)

/-- ITS FALSE NEIGHBOUR: 'it returns false'. Refute it at one input. -/
def fnAddSymbolCommutesAndKeepsParityWrong : ChangeSpec := { name := "fnAddSymbolCommutesAndKeepsParity", fn := fun _ => fun
  | [d1, d2] => { results := [.lit (.bool false)], args := [d1, d2] }
  | _ => none }
def FnAddSymbolCommutesAndKeepsParityWrongFalsely : Prop := fnAddSymbolCommutesAndKeepsParityRow.holds Try.pinned (OpenSpec.ofChange fnAddSymbolCommutesAndKeepsParityWrong)

end Rows
end Go.Proofs.Qxb6618497a
