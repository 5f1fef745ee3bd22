/-
  No cell of these rows narrows 'for every input' (looked for: loops, veiled, ifaces, maps, wideKeys, modest, calm, conditions, laid).
  DERIVED. THE GIVEN ROWS OF THIS SEAT. 6 by the template 'for every input the law returns true; each argument reads behind the call as it read before'; 0 by the template 'total and deterministic' (their statements: Qxb6618487aTotals.lean).
  GIVEN WITH THE SEED: the statements are not yours to turn. If you find one false, say at which input.
  Laid BY PROGRAM, IN A SANDBOX (cutbox-rows.mjs): the forced cells as the released guide's own fill.sh prints them over the translation b191cd17a349760f… (all of the seat's roots in one cut). By AI agents, Wed Nov 11 2026. No macro, syntax, notation, axiom, sorry.
-/
import Derived.Test.Qxb6618487aChecked
import GoSem.Claim
import GoSem.ClaimJoined
import GoSem.ClaimMapViews
import Derived.JoinedTies
import Derived.KernelRfl
namespace Go.Proofs.Qxb6618487a
/- THE CELL 'sum', in the pinned program and in every row, IS THE sha256 OF THE DUMP (.gsa) THAT Qxb6618487aProg.lean LOADS. Nothing in Lean hashes anything: it is a label: what it is worth is what the hold of that sum in a sandbox is worth. -/
noncomputable def Try.pinned : Pinned := { name := "qxb6618487a", sum := "b191cd17a349760f81a3b744e613303d1641e36b87d216aa752252bdf0e5b4b3", checked := Try.checked }
namespace Rows
def none {H : Type} : Left H := { results := [], args := [] }

/-- 'zzlaws_root_b1.FnDeclaredTwiceAddsDescriptionsOnce': WHATEVER THE INPUT: true; the input reads as it did. -/
def fnDeclaredTwiceAddsDescriptionsOnceSpec : ChangeSpec := { name := "fnDeclaredTwiceAddsDescriptionsOnce", fn := fun _ => fun
  | [d1, d2, d3, d4] => { results := [.lit (.bool true)], args := [d1, d2, d3, d4] }
  | _ => none }
def fnDeclaredTwiceAddsDescriptionsOnceRow : OpenClaim := { program := "qxb6618487a", sum := "b191cd17a349760f81a3b744e613303d1641e36b87d216aa752252bdf0e5b4b3", func := "example.com/garm/garm/zzlaws_root_b1.FnDeclaredTwiceAddsDescriptionsOnce", spec := "fnDeclaredTwiceAddsDescriptionsOnce", apart := false }
def FnDeclaredTwiceAddsDescriptionsOnceSaid : Prop := fnDeclaredTwiceAddsDescriptionsOnceRow.holds Try.pinned (OpenSpec.ofChange fnDeclaredTwiceAddsDescriptionsOnceSpec)

/-- ITS FALSE NEIGHBOUR: 'it returns false'. Refute it at one input. -/
def fnDeclaredTwiceAddsDescriptionsOnceWrong : ChangeSpec := { name := "fnDeclaredTwiceAddsDescriptionsOnce", fn := fun _ => fun
  | [d1, d2, d3, d4] => { results := [.lit (.bool false)], args := [d1, d2, d3, d4] }
  | _ => none }
def FnDeclaredTwiceAddsDescriptionsOnceWrongFalsely : Prop := fnDeclaredTwiceAddsDescriptionsOnceRow.holds Try.pinned (OpenSpec.ofChange fnDeclaredTwiceAddsDescriptionsOnceWrong)

/-- 'zzlaws_root_b1.FnReferenceSharesChildren': WHATEVER THE INPUT: true; the input reads as it did. -/
def fnReferenceSharesChildrenSpec : ChangeSpec := { name := "fnReferenceSharesChildren", fn := fun _ => fun
  | [d1, d2, d3, d4] => { results := [.lit (.bool true)], args := [d1, d2, d3, d4] }
  | _ => none }
def fnReferenceSharesChildrenRow : OpenClaim := { program := "qxb6618487a", sum := "b191cd17a349760f81a3b744e613303d1641e36b87d216aa752252bdf0e5b4b3", func := "example.com/garm/garm/zzlaws_root_b1.FnReferenceSharesChildren", spec := "fnReferenceSharesChildren", apart := false }
def FnReferenceSharesChildrenSaid : Prop := fnReferenceSharesChildrenRow.holds Try.pinned (OpenSpec.ofChange fnReferenceSharesChildrenSpec)

/-- ITS FALSE NEIGHBOUR: 'it returns false'. Refute it at one input. -/
def fnReferenceSharesChildrenWrong : ChangeSpec := { name := "fnReferenceSharesChildren", fn := fun _ => fun
  | [d1, d2, d3, d4] => { results := [.lit (.bool false)], args := [d1, d2, d3, d4] }
  | _ => none }
def FnReferenceSharesChildrenWrongFalsely : Prop := fnReferenceSharesChildrenRow.holds Try.pinned (OpenSpec.ofChange fnReferenceSharesChildrenWrong)

/-- 'zzlaws_root_b1.FnOverlapsHoldsExtensions': WHATEVER THE INPUT: true; the input reads as it did. -/
def fnOverlapsHoldsExtensionsSpec : ChangeSpec := { name := "fnOverlapsHoldsExtensions", fn := fun _ => fun
  | [d1, d2, d3, d4] => { results := [.lit (.bool true)], args := [d1, d2, d3, d4] }
  | _ => none }
def fnOverlapsHoldsExtensionsRow : OpenClaim := { program := "qxb6618487a", sum := "b191cd17a349760f81a3b744e613303d1641e36b87d216aa752252bdf0e5b4b3", func := "example.com/garm/garm/zzlaws_root_b1.FnOverlapsHoldsExtensions", spec := "fnOverlapsHoldsExtensions", apart := false }
def FnOverlapsHoldsExtensionsSaid : Prop := fnOverlapsHoldsExtensionsRow.holds Try.pinned (OpenSpec.ofChange fnOverlapsHoldsExtensionsSpec)

/-- ITS FALSE NEIGHBOUR: 'it returns false'. Refute it at one input. -/
def fnOverlapsHoldsExtensionsWrong : ChangeSpec := { name := "fnOverlapsHoldsExtensions", fn := fun _ => fun
  | [d1, d2, d3, d4] => { results := [.lit (.bool false)], args := [d1, d2, d3, d4] }
  | _ => none }
def FnOverlapsHoldsExtensionsWrongFalsely : Prop := fnOverlapsHoldsExtensionsRow.holds Try.pinned (OpenSpec.ofChange fnOverlapsHoldsExtensionsWrong)

/-- 'zzlaws_root_b1.FnOverlapsUnderCommonParent': WHATEVER THE INPUT: true; the input reads as it did. -/
def fnOverlapsUnderCommonParentSpec : ChangeSpec := { name := "fnOverlapsUnderCommonParent", fn := fun _ => fun
  | [d1, d2, d3, d4, d5] => { results := [.lit (.bool true)], args := [d1, d2, d3, d4, d5] }
  | _ => none }
def fnOverlapsUnderCommonParentRow : OpenClaim := { program := "qxb6618487a", sum := "b191cd17a349760f81a3b744e613303d1641e36b87d216aa752252bdf0e5b4b3", func := "example.com/garm/garm/zzlaws_root_b1.FnOverlapsUnderCommonParent", spec := "fnOverlapsUnderCommonParent", apart := false }
def FnOverlapsUnderCommonParentSaid : Prop := fnOverlapsUnderCommonParentRow.holds Try.pinned (OpenSpec.ofChange fnOverlapsUnderCommonParentSpec)

/-- ITS FALSE NEIGHBOUR: 'it returns false'. Refute it at one input. -/
def fnOverlapsUnderCommonParentWrong : ChangeSpec := { name := "fnOverlapsUnderCommonParent", fn := fun _ => fun
  | [d1, d2, d3, d4, d5] => { results := [.lit (.bool false)], args := [d1, d2, d3, d4, d5] }
  | _ => none }
def FnOverlapsUnderCommonParentWrongFalsely : Prop := fnOverlapsUnderCommonParentRow.holds Try.pinned (OpenSpec.ofChange fnOverlapsUnderCommonParentWrong)

/-- 'zzlaws_root_b1.FnCountedClassExact': WHATEVER THE INPUT: true; the input reads as it did. -/
def fnCountedClassExactSpec : ChangeSpec := { name := "fnCountedClassExact", fn := fun _ => fun
  | [d1, d2, d3, d4, d5] => { results := [.lit (.bool true)], args := [d1, d2, d3, d4, d5] }
  | _ => none }
def fnCountedClassExactRow : OpenClaim := { program := "qxb6618487a", sum := "b191cd17a349760f81a3b744e613303d1641e36b87d216aa752252bdf0e5b4b3", func := "example.com/garm/garm/zzlaws_root_b1.FnCountedClassExact", spec := "fnCountedClassExact", apart := false }
def FnCountedClassExactSaid : Prop := fnCountedClassExactRow.holds Try.pinned (OpenSpec.ofChange fnCountedClassExactSpec)

/-- ITS FALSE NEIGHBOUR: 'it returns false'. Refute it at one input. -/
def fnCountedClassExactWrong : ChangeSpec := { name := "fnCountedClassExact", fn := fun _ => fun
  | [d1, d2, d3, d4, d5] => { results := [.lit (.bool false)], args := [d1, d2, d3, d4, d5] }
  | _ => none }
def FnCountedClassExactWrongFalsely : Prop := fnCountedClassExactRow.holds Try.pinned (OpenSpec.ofChange fnCountedClassExactWrong)

/-- 'zzlaws_root_b1.FnCountedClassSeesThroughGroups': WHATEVER THE INPUT: true; the input reads as it did. -/
def fnCountedClassSeesThroughGroupsSpec : ChangeSpec := { name := "fnCountedClassSeesThroughGroups", fn := fun _ => fun
  | [d1, d2, d3, d4] => { results := [.lit (.bool true)], args := [d1, d2, d3, d4] }
  | _ => none }
def fnCountedClassSeesThroughGroupsRow : OpenClaim := { program := "qxb6618487a", sum := "b191cd17a349760f81a3b744e613303d1641e36b87d216aa752252bdf0e5b4b3", func := "example.com/garm/garm/zzlaws_root_b1.FnCountedClassSeesThroughGroups", spec := "fnCountedClassSeesThroughGroups", apart := false }
def FnCountedClassSeesThroughGroupsSaid : Prop := fnCountedClassSeesThroughGroupsRow.holds Try.pinned (OpenSpec.ofChange fnCountedClassSeesThroughGroupsSpec)

/-- ITS FALSE NEIGHBOUR: 'it returns false'. Refute it at one input. -/
def fnCountedClassSeesThroughGroupsWrong : ChangeSpec := { name := "fnCountedClassSeesThroughGroups", fn := fun _ => fun
  | [d1, d2, d3, d4] => { results := [.lit (.bool false)], args := [d1, d2, d3, d4] }
  | _ => none }
def FnCountedClassSeesThroughGroupsWrongFalsely : Prop := fnCountedClassSeesThroughGroupsRow.holds Try.pinned (OpenSpec.ofChange fnCountedClassSeesThroughGroupsWrong)

end Rows
end Go.Proofs.Qxb6618487a
