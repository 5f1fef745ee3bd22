/-
  SEAT b6618498a: a slice of bytes that came in, as the walks are told of it.
-/
import Derived.Test.Qxb6618498aTqBase
import Derived.OpenShut
namespace Go.Proofs.Qxb6618498a.Tq
open Go.RowKit

/-- A slice of bytes that came in (the shell's own word). -/
def Row (k : IntKind) (w : World) (a : Option Addr) (len cap : Nat) (zs : List Int) : Prop :=
  (a = none ∧ len = 0 ∧ cap = 0 ∧ zs = []) ∨
  ∃ x, a = some x ∧ len ≤ cap ∧ cap ≤ maxLen ∧ zs.length = cap ∧ (∀ i, i < zs.length → w.cell? (x.add i) = some (.int k (zs.getD i 0))) ∧ ∀ n ∈ zs, (Lit.int k n).wf = true

theorem byte_wf {n : Int} (h : (Lit.int .u8 n).wf = true) : 0 ≤ n ∧ n ≤ 255 := bounds_u8 h

theorem Row.bytes {w : World} {a : Option Addr} {len cap : Nat} {zs : List Int} (h : Row .u8 w a len cap zs) :
    ∃ D : List Nat, D.length = len ∧ IsBytes w (.slice a len cap) D ∧ (∀ i, i < D.length → D.getD i 0 < 256) ∧ (a = none → D = [] ∧ cap = 0) ∧ len ≤ maxLen := by
  rcases h with ⟨rfl, rfl, rfl, rfl⟩ | ⟨x, rfl, hlc, hcm, hz, hcell, hwf⟩
  · exact ⟨[], rfl, .inl ⟨rfl, none, 0, rfl⟩, by simp, fun _ => ⟨rfl, rfl⟩, Nat.zero_le _⟩
  · have hl : ((zs.take len).map Int.toNat).length = len := by simp; omega
    have hb : ∀ i, i < len → ((zs.take len).map Int.toNat).getD i 0 < 256 ∧ ((((zs.take len).map Int.toNat).getD i 0 : Nat) : Int) = zs.getD i 0 := fun i hi => by
      have hi' : i < zs.length := by omega
      have hw := byte_wf (hwf _ (List.getElem_mem hi'))
      have e1 : ((zs.take len).map Int.toNat).getD i 0 = (zs[i]).toNat := by
        simp [List.getD_eq_getElem?_getD, hi, List.getElem?_eq_getElem hi']
      have e2 : zs.getD i 0 = zs[i] := by simp [List.getD_eq_getElem?_getD, List.getElem?_eq_getElem hi']
      rw [e1, e2]
      omega
    refine ⟨(zs.take len).map Int.toNat, hl, ?_, fun i hi => (hb i (by omega)).1, (fun h => by cases h), by omega⟩
    by_cases h0 : len = 0
    · subst h0
      exact .inl ⟨by simp, some x, cap, rfl⟩
    · obtain ⟨b, off, spot⟩ := x
      have hspot : spot = none := by simpa [Addr.add] using World.cell?_spot (hcell 0 (by omega))
      subst hspot
      refine .inr ⟨b, off, cap, by rw [hl], fun i hi => ?_⟩
      rw [hl] at hi
      rw [← Go.WideShapes.add_plain, hcell i (by omega)]
      unfold bv
      rw [(hb i hi).2]

end Go.Proofs.Qxb6618498a.Tq
