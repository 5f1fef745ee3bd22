/-
  No cell of these rows narrows 'for every input' (looked for: loops, veiled, ifaces, maps, wideKeys, modest, calm, conditions, laid).
  DERIVED. THE GIVEN ROWS OF THIS SEAT. 2 by the template 'for every input the law returns true; each argument reads behind the call as it read before'; 0 by the template 'total and deterministic' (their statements: Qxb6618498aTotals.lean).
  GIVEN WITH THE SEED: the statements are not yours to turn. If you find one false, say at which input.
  Laid BY PROGRAM, IN A SANDBOX (cutbox-rows.mjs): the forced cells as the released guide's own fill.sh prints them over the translation 388cfc7efdbc811a… (all of the seat's roots in one cut). By AI agents, Wed Nov 11 2026. No macro, syntax, notation, axiom, sorry.
-/
import Derived.Test.Qxb6618498aChecked
import GoSem.Claim
import GoSem.ClaimJoined
import GoSem.ClaimMapViews
import Derived.JoinedTies
import Derived.KernelRfl
namespace Go.Proofs.Qxb6618498a
/- THE CELL 'sum', in the pinned program and in every row, IS THE sha256 OF THE DUMP (.gsa) THAT Qxb6618498aProg.lean LOADS. Nothing in Lean hashes anything: it is a label: what it is worth is what the hold of that sum in a sandbox is worth. -/
noncomputable def Try.pinned : Pinned := { name := "qxb6618498a", sum := "388cfc7efdbc811aff2820349925070297177de64cf4cfd9665d190d95c6fa11", checked := Try.checked }
namespace Rows
def none {H : Type} : Left H := { results := [], args := [] }

/-- 'zzlaws_pkgconfig_b1.FnTextQuoteWriteAtAnyCut': WHATEVER THE INPUT: true; the input reads as it did. -/
def fnTextQuoteWriteAtAnyCutSpec : ChangeSpec := { name := "fnTextQuoteWriteAtAnyCut", fn := fun _ => fun
  | [d1, d2] => { results := [.lit (.bool true)], args := [d1, d2] }
  | _ => none }
def fnTextQuoteWriteAtAnyCutRow : OpenClaim := { program := "qxb6618498a", sum := "388cfc7efdbc811aff2820349925070297177de64cf4cfd9665d190d95c6fa11", func := "example.com/varro/varro/zzlaws_pkgconfig_b1.FnTextQuoteWriteAtAnyCut", spec := "fnTextQuoteWriteAtAnyCut", apart := false }
def FnTextQuoteWriteAtAnyCutSaid : Prop := fnTextQuoteWriteAtAnyCutRow.holds Try.pinned (OpenSpec.ofChange fnTextQuoteWriteAtAnyCutSpec)

/-- ITS FALSE NEIGHBOUR: 'it returns false'. Refute it at one input. -/
def fnTextQuoteWriteAtAnyCutWrong : ChangeSpec := { name := "fnTextQuoteWriteAtAnyCut", fn := fun _ => fun
  | [d1, d2] => { results := [.lit (.bool false)], args := [d1, d2] }
  | _ => none }
def FnTextQuoteWriteAtAnyCutWrongFalsely : Prop := fnTextQuoteWriteAtAnyCutRow.holds Try.pinned (OpenSpec.ofChange fnTextQuoteWriteAtAnyCutWrong)

/-- 'zzlaws_pkgconfig_b1.FnValueWriteToWritesExpansion': WHATEVER THE INPUT: true; the input reads as it did. -/
def fnValueWriteToWritesExpansionSpec : ChangeSpec := { name := "fnValueWriteToWritesExpansion", fn := fun _ => fun
  | [d1, d2, d3, d4, d5, d6, d7, d8] => { results := [.lit (.bool true)], args := [d1, d2, d3, d4, d5, d6, d7, d8] }
  | _ => none }
def fnValueWriteToWritesExpansionRow : OpenClaim := { program := "qxb6618498a", sum := "388cfc7efdbc811aff2820349925070297177de64cf4cfd9665d190d95c6fa11", func := "example.com/varro/varro/zzlaws_pkgconfig_b1.FnValueWriteToWritesExpansion", spec := "fnValueWriteToWritesExpansion", unfollowed := true, recurses := true, apart := false }
def FnValueWriteToWritesExpansionSaid : Prop := fnValueWriteToWritesExpansionRow.holds Try.pinned (OpenSpec.ofChange fnValueWriteToWritesExpansionSpec)

/-- ITS FALSE NEIGHBOUR: 'it returns false'. Refute it at one input. -/
def fnValueWriteToWritesExpansionWrong : ChangeSpec := { name := "fnValueWriteToWritesExpansion", fn := fun _ => fun
  | [d1, d2, d3, d4, d5, d6, d7, d8] => { results := [.lit (.bool false)], args := [d1, d2, d3, d4, d5, d6, d7, d8] }
  | _ => none }
def FnValueWriteToWritesExpansionWrongFalsely : Prop := fnValueWriteToWritesExpansionRow.holds Try.pinned (OpenSpec.ofChange fnValueWriteToWritesExpansionWrong)

end Rows
end Go.Proofs.Qxb6618498a
