/-
  SEAT b6618487a: a slice of strings that came in, as the walks are told of it.
-/
import Derived.Test.Qxb6618487aDcLaw3
import Derived.ProofKit
import Derived.OpenShut
import Derived.SliceStrings
namespace Go.Proofs.Qxb6618487a.Dc
open Go.ChangeShapes Go.WideShapes Go.ChangeAt Go.RowKit

theorem cells9 : Try.prog.cellsOf 9 = 1 := by kernel_rfl

theorem strs_of {H : Type} {enc : TypeId × Value → H} {W : World} {base : Nat} {spare : Nat → Bool} {held : Bool} {fuel : Nat} {a0 : Option Addr} {len cap : Nat} {x : DataW H × List MemPlace}
    (h : DataW.trod enc Try.prog W base spare held fuel 22 (Value.cells (.slice a0 len cap)).toList = some x) :
    ∃ ss : List ByteArray, IsStrs W (.slice a0 len cap) ss ∧ ss.length ≤ maxLen ∧ ∀ s ∈ ss, s.size ≤ maxLen := by
  rcases open_strings Try.underlying22 Try.underlying9 cells9 h with ⟨hcs, _⟩ | ⟨a, l, c, ss, hcs, _, hl, hm, hz, _, hcell, hws⟩
  · simp [Value.cells] at hcs
    obtain ⟨rfl, rfl, rfl⟩ := hcs
    exact ⟨[], .inl ⟨rfl, none, 0, rfl⟩, Nat.zero_le _, by simp⟩
  · simp [Value.cells] at hcs
    obtain ⟨rfl, rfl, rfl⟩ := hcs
    have hls : len ≤ ss.length := by rw [hz]; split <;> omega
    have htl : (ss.take len).length = len := by simp; omega
    refine ⟨ss.take len, ?_, by omega, fun s hs => hws s (List.mem_of_mem_take hs)⟩
    by_cases h0 : len = 0
    · subst h0
      exact .inl ⟨by simp, some a, cap, rfl⟩
    · obtain ⟨b, off, spot⟩ := a
      have hspot : spot = none := by simpa [Addr.add] using World.cell?_spot (hcell 0 (by omega))
      subst hspot
      refine .inr ⟨b, off, cap, by rw [htl], fun i hi => ?_⟩
      rw [htl] at hi
      rw [← Go.WideShapes.add_plain, hcell i (by omega)]
      congr 2
      simp only [List.getD_eq_getElem?_getD]
      rw [List.getElem?_take, if_pos hi]

end Go.Proofs.Qxb6618487a.Dc
