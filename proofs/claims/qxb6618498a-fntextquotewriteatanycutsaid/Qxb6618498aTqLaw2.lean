/-
  SEAT b6618498a: THE LAW FnTextQuoteWriteAtAnyCut (3), for every input.
-/
import Derived.Test.Qxb6618498aTqLaw
import Derived.Test.Qxb6618498aTqOpen
namespace Go.Proofs.Qxb6618498a.Tq
open Go.RowKit

/-- The bytes X as a ByteArray. -/
def str (X : List Nat) : ByteArray := ⟨(X.map UInt8.ofNat).toArray⟩
theorem nats_str (X : List Nat) (h : ∀ i, i < X.length → X.getD i 0 < 256) : nats (str X) = X := by
  unfold nats str
  rw [List.map_map]
  apply List.ext_getElem?
  intro i
  rw [List.getElem?_map]
  by_cases hi : i < X.length
  · have hx := h i hi
    rw [List.getD_eq_getElem?_getD, List.getElem?_eq_getElem hi] at hx
    rw [List.getElem?_eq_getElem hi]
    simp only [Option.map_some, Option.some.injEq, Function.comp_apply]
    exact UInt8.toNat_ofNat_of_lt hx
  · rw [List.getElem?_eq_none (by omega)]
    rfl
theorem str_size (X : List Nat) : (str X).size = X.length := by simp [str, ByteArray.size]

set_option maxRecDepth 100000 in
theorem law_long (w : World) (a0 a1 : Option Addr) (n0 n1 c0 c1 : Nat) (h0 : n0 ≤ maxLen) (h1 : n1 ≤ maxLen) (h : ¬ (n0 ≤ 524288 ∧ n1 ≤ 524288)) :
    Calls Try.prog 3 #[.slice a0 n0 c0, .slice a1 n1 c1] w fun e w' => e = .returned (.bool true) ∧ Below w.heap.size w w' := by
  by_cases hz : n0 + n1 ≤ 1048576
  · clear h0 h1
    by_cases hn : n0 ≤ 524288
    · have t0 : ¬ (524288 : Int) < (n0 : Int) := by omega
      have t1 : (524288 : Int) < (n1 : Int) := by omega
      clear h hn
      go_enter Try.func3, Try.ntmps3
      go_wp2_with fail
      refine (zz_yes w a0 a1 n0 n1 c0 c1 hz).mono ?_
      rintro e w' ⟨rfl, rfl⟩
      go_wp2_with fail
      go_ret
      exact ⟨rfl, Below.refl _ _⟩
    · have t0 : (524288 : Int) < (n0 : Int) := by omega
      clear h hn
      go_enter Try.func3, Try.ntmps3
      go_wp2_with fail
      refine (zz_yes w a0 a1 n0 n1 c0 c1 hz).mono ?_
      rintro e w' ⟨rfl, rfl⟩
      go_wp2_with fail
      go_ret
      exact ⟨rfl, Below.refl _ _⟩
  · clear h
    go_enter Try.func3, Try.ntmps3
    go_wp2_with fail
    refine (zz_no w a0 a1 n0 n1 c0 c1 h0 h1 hz).mono ?_
    rintro e w' ⟨rfl, rfl⟩
    go_wp2_with fail
    go_ret
    exact ⟨rfl, Below.refl _ _⟩

theorem law (a0 : Option Addr) (len0 cap0 : Nat) (z0 : List Int) (a1 : Option Addr) (len1 cap1 : Nat) (z1 : List Int) (w : World) (w0 : Row .u8 w a0 len0 cap0 z0) (w1 : Row .u8 w a1 len1 cap1 z1) :
    Calls Try.prog 3 #[.slice a0 len0 cap0, .slice a1 len1 cap1] w fun e w' => e = .returned (.bool true) ∧ Below w.heap.size w w' := by
  obtain ⟨X, rfl, hX, bX, nX, mX⟩ := w0.bytes
  obtain ⟨Y, rfl, hY, bY, nY, mY⟩ := w1.bytes
  by_cases h : X.length ≤ 524288 ∧ Y.length ≤ 524288
  · have e0 := nats_str X bX
    have e1 := nats_str Y bY
    have l0 := str_size X
    have l1 := str_size Y
    have := law_main w a0 a1 cap0 cap1 (str X) (str Y) (by rw [e0, l0]; exact hX) (by rw [e1, l1]; exact hY) (by omega) (by omega)
      (fun e => ⟨by rw [(nX e).1]; rfl, (nX e).2⟩) (fun e => ⟨by rw [(nY e).1]; rfl, (nY e).2⟩)
    rw [l0, l1] at this
    exact this
  · exact law_long w a0 a1 X.length Y.length cap0 cap1 mX mY h

end Go.Proofs.Qxb6618498a.Tq
