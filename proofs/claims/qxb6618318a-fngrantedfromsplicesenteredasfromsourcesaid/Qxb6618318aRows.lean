/-
  No cell of these rows narrows 'for every input' (looked for: loops, veiled, ifaces, maps, wideKeys, modest, calm, conditions, laid).
  DERIVED. THE GIVEN ROWS OF THIS SEAT. 1 by the template 'for every input the law returns true; each argument reads behind the call as it read before'; 0 by the template 'total and deterministic' (their statements: Qxb6618318aTotals.lean).
  GIVEN WITH THE SEED: the statements are not yours to turn. If you find one false, say at which input.
  Laid BY PROGRAM, IN A SANDBOX (cutbox-rows.mjs): the forced cells as the released guide's own fill.sh prints them over the translation aaf9c338f570886c… (all of the seat's roots in one cut). By AI agents, Wed Nov 11 2026. No macro, syntax, notation, axiom, sorry.
-/
import Derived.Test.Qxb6618318aChecked
import GoSem.Claim
import GoSem.ClaimJoined
import GoSem.ClaimMapViews
import Derived.JoinedTies
import Derived.KernelRfl
namespace Go.Proofs.Qxb6618318a
/- THE CELL 'sum', in the pinned program and in every row, IS THE sha256 OF THE DUMP (.gsa) THAT Qxb6618318aProg.lean LOADS. Nothing in Lean hashes anything: it is a label: what it is worth is what the hold of that sum in a sandbox is worth. -/
noncomputable def Try.pinned : Pinned := { name := "qxb6618318a", sum := "aaf9c338f570886c63aaf34b69409065609e49078c02670ccbb5263961f32d6c", checked := Try.checked }
namespace Rows
def none {H : Type} : Left H := { results := [], args := [] }

/-- 'zzlaws_internal_store_b1.FnGrantedFromSplicesEnteredAsFromSource': WHATEVER THE INPUT: true; the input reads as it did. -/
def fnGrantedFromSplicesEnteredAsFromSourceSpec : ChangeSpec := { name := "fnGrantedFromSplicesEnteredAsFromSource", fn := fun _ => fun
  | [d1, d2] => { results := [.lit (.bool true)], args := [d1, d2] }
  | _ => none }
def fnGrantedFromSplicesEnteredAsFromSourceRow : OpenClaim := { program := "qxb6618318a", sum := "aaf9c338f570886c63aaf34b69409065609e49078c02670ccbb5263961f32d6c", func := "example.com/codeledger/codeledger/zzlaws_internal_store_b1.FnGrantedFromSplicesEnteredAsFromSource", spec := "fnGrantedFromSplicesEnteredAsFromSource", apart := false }
def FnGrantedFromSplicesEnteredAsFromSourceSaid : Prop := fnGrantedFromSplicesEnteredAsFromSourceRow.holds Try.pinned (OpenSpec.ofChange fnGrantedFromSplicesEnteredAsFromSourceSpec)

/-- ITS FALSE NEIGHBOUR: 'it returns false'. Refute it at one input. -/
def fnGrantedFromSplicesEnteredAsFromSourceWrong : ChangeSpec := { name := "fnGrantedFromSplicesEnteredAsFromSource", fn := fun _ => fun
  | [d1, d2] => { results := [.lit (.bool false)], args := [d1, d2] }
  | _ => none }
def FnGrantedFromSplicesEnteredAsFromSourceWrongFalsely : Prop := fnGrantedFromSplicesEnteredAsFromSourceRow.holds Try.pinned (OpenSpec.ofChange fnGrantedFromSplicesEnteredAsFromSourceWrong)

end Rows
end Go.Proofs.Qxb6618318a
