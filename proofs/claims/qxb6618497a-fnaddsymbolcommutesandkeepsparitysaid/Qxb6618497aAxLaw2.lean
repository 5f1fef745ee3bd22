/-
  SEAT b6618497a: THE LAW FnAddSymbolCommutesAndKeepsParity (6), for every input.
-/
import Derived.Test.Qxb6618497aAxLaw
import Derived.Test.Qxb6618497aAxOpen
namespace Go.Proofs.Qxb6618497a.Ax
open Go.RowKit

set_option maxRecDepth 100000 in
theorem law_long (w : World) (a0 a1 : Option Addr) (n0 n1 c0 c1 : Nat) (h0 : n0 ≤ maxLen) (h1 : n1 ≤ maxLen) (h : ¬ (n0 ≤ 524288 ∧ n1 ≤ 524288)) :
    Calls Try.prog 6 #[.slice a0 n0 c0, .slice a1 n1 c1] w fun e w' => e = .returned (.bool true) ∧ Below w.heap.size w w' := by
  by_cases hz : n0 + n1 ≤ 1048576
  · clear h0 h1
    by_cases hn : n0 ≤ 524288
    · have t0 : ¬ (524288 : Int) < (n0 : Int) := by omega
      have t1 : (524288 : Int) < (n1 : Int) := by omega
      clear h hn
      go_enter Try.func6, Try.ntmps6
      go_wp2_with fail
      refine (zz_yes w a0 a1 n0 n1 c0 c1 hz).mono ?_
      rintro e w' ⟨rfl, rfl⟩
      go_wp2_with fail
      go_ret
      exact ⟨rfl, Below.refl _ _⟩
    · have t0 : (524288 : Int) < (n0 : Int) := by omega
      clear h hn
      go_enter Try.func6, Try.ntmps6
      go_wp2_with fail
      refine (zz_yes w a0 a1 n0 n1 c0 c1 hz).mono ?_
      rintro e w' ⟨rfl, rfl⟩
      go_wp2_with fail
      go_ret
      exact ⟨rfl, Below.refl _ _⟩
  · clear h
    go_enter Try.func6, Try.ntmps6
    go_wp2_with fail
    refine (zz_no w a0 a1 n0 n1 c0 c1 h0 h1 hz).mono ?_
    rintro e w' ⟨rfl, rfl⟩
    go_wp2_with fail
    go_ret
    exact ⟨rfl, Below.refl _ _⟩

theorem law (a0 : Option Addr) (len0 cap0 : Nat) (z0 : List Int) (a1 : Option Addr) (len1 cap1 : Nat) (z1 : List Int) (w : World) (w0 : Row .u8 w a0 len0 cap0 z0) (w1 : Row .u8 w a1 len1 cap1 z1) :
    Calls Try.prog 6 #[.slice a0 len0 cap0, .slice a1 len1 cap1] w fun e w' => e = .returned (.bool true) ∧ Below w.heap.size w w' := by
  obtain ⟨D, rfl, hD, bD, nD, mD⟩ := w0.bytes
  obtain ⟨S, rfl, hS, bS, nS, mS⟩ := w1.bytes
  by_cases h : D.length ≤ 524288 ∧ S.length ≤ 524288
  · exact law_main w a0 a1 cap0 cap1 D S hD hS h.1 h.2 nD nS bD bS
  · exact law_long w a0 a1 D.length S.length cap0 cap1 mD mS h

end Go.Proofs.Qxb6618497a.Ax
