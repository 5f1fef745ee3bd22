/-
  THE LAW's OWN WALK (function 3), out of the contracts of Qxb6618318aGfWalks.lean.
-/
import Derived.Test.Qxb6618318aGfWalks
import Derived.ProofKit
namespace Go.Proofs.Qxb6618318a.Gf
open Go.RowKit
set_option linter.unusedVariables false

/-! ### THE PLAIN FACTS: the template's text, and where the name goes -/
/-- The text for the empty name. -/
def E0 : ByteArray := preB ++ ByteArray.empty ++ sufB
/-- What is looked for. -/
def T0 : ByteArray := ⟨#[70, 82, 79, 77, 32, 32, 101, 44, 32, 117, 110, 110, 101, 115, 116, 40]⟩
theorem E0_size : E0.size = 247 := by kernel_rfl
theorem T0_size : T0.size = 16 := by kernel_rfl
theorem E0_pre : E0.extract 0 184 = preB := by kernel_rfl
theorem E0_suf : E0.extract 184 247 = sufB := by kernel_rfl

def hitB (i : Nat) : Bool := (List.range 16).all fun j => E0.data.toList.getD (i + j) 0 == T0.data.toList.getD j 0
theorem hit179 : hitB 179 = true := by kernel_rfl
theorem miss179 : ((List.range 179).all fun i => !hitB i) = true := by kernel_rfl

theorem at_getD (s : ByteArray) (i : Nat) (h : i < s.size) : s.data.toList.getD i 0 = s[i] := by
  have h' : i < s.data.toList.length := by simpa using h
  rw [List.getD_eq_getElem?_getD, List.getElem?_eq_getElem h']
  rfl

theorem hit_mk (j : Nat) (hj : j < T0.size) (hq : 179 + j < E0.size) : E0[179 + j] = T0[j] := by
  have h := List.all_eq_true.1 hit179 j (List.mem_range.2 (by rw [T0_size] at hj; exact hj))
  rw [at_getD _ _ hq, at_getD _ _ hj] at h
  exact eq_of_beq h

theorem miss_mk (i : Nat) (hi : i < 179) : ∃ j, ∃ (_ : j < T0.size), ∃ (_ : i + j < E0.size), E0[i + j] ≠ T0[j] := by
  have h := List.all_eq_true.1 miss179 i (List.mem_range.2 hi)
  have h1 : hitB i = false := by simpa using h
  unfold hitB at h1
  rw [List.all_eq_false] at h1
  obtain ⟨j, hj, hne⟩ := h1
  have hj' : j < T0.size := by rw [T0_size]; exact List.mem_range.1 hj
  have hq : i + j < E0.size := by rw [E0_size]; rw [T0_size] at hj'; omega
  refine ⟨j, hj', hq, fun h => hne ?_⟩
  rw [at_getD _ _ hq, at_getD _ _ hj', h]
  simp

/-- 'zzIndex' at the template and the mark: 179. -/
theorem index_at (w : World) : Calls Try.prog 6 #[.string E0, .string T0] w fun e w' => e = .returned (.int .i64 179) ∧ ∃ n, w' = w.drewN n :=
  index_calls E0 T0 179 w (by rw [E0_size]; decide) (by rw [E0_size, T0_size]; decide)
    (fun j hj => hit_mk j hj (by rw [E0_size]; rw [T0_size] at hj; omega)) miss_mk

theorem grown_drewN (w : World) (n : Nat) : Grown w (w.drewN n) := by
  rw [← World.drewN_zero w]
  induction n with
  | zero => exact Grown.refl _
  | succ n ih => exact Grown.drew ih

theorem core (E P S : ByteArray) (hsz : E.size = 247) (hx1 : E.extract 0 184 = P) (hx2 : E.extract 184 247 = S)
    (HG : Hid (∀ a w, a.size ≤ 65536 → Calls Try.prog 5 #[.string a] w fun e w' => e = .returned (.string (P ++ a ++ S)) ∧ w' = w))
    (HE : Hid (∀ w, Calls Try.prog 5 #[.string ⟨#[]⟩] w fun e w' => e = .returned (.string E) ∧ w' = w))
    (HI : Hid (∀ w, Calls Try.prog 6 #[.string E, .string ⟨#[70, 82, 79, 77, 32, 32, 101, 44, 32, 117, 110, 110, 101, 115, 116, 40]⟩] w fun e w' => e = .returned (.int .i64 179) ∧ ∃ n, w' = w.drewN n))
    (a0 : ByteArray) (a1 : ByteArray) (hb : a0.size + a1.size ≤ 1048576) (h0 : a0.size ≤ 65536) (h1 : a1.size ≤ 65536) (w : World) :
    Calls Try.prog 3 #[.string a0, .string a1] w fun e w' => e = .returned (.bool true) ∧ Grown w w' := by
  have HP : P.size ≤ 247 := by rw [← hx1]; simp; omega
  have HS : S.size ≤ 247 := by rw [← hx2]; simp; omega
  have c0 : ¬ 9223372036854775807 < P.size + a0.size := by omega
  have c1 : ¬ 9223372036854775807 < P.size + a1.size := by omega
  have d0 : ¬ 9223372036854775807 < P.size + a0.size + S.size := by omega
  have d1 : ¬ 9223372036854775807 < P.size + a1.size + S.size := by omega
  go_enter Try.func3, Try.ntmps3
  go_wp2_with fail
  refine (bytes_yes _ _ _ hb).mono ?_
  rintro e w' ⟨rfl, rfl⟩
  go_wp2_with fail
  refine (HE.out _).mono ?_
  rintro e w' ⟨rfl, rfl⟩
  go_wp2_with fail
  refine (HI.out _).mono ?_
  rintro e w' ⟨rfl, n, rfl⟩
  go_wp2_with fail
  refine (HG.out _ _ h0).mono ?_
  rintro e w' ⟨rfl, rfl⟩
  go_wp2_with fail
  refine (HG.out _ _ h1).mono ?_
  rintro e w' ⟨rfl, rfl⟩
  go_wp2_with fail
  go_quiet (fail)
  go_wp2
  go_quiet (fail)
  go_wp2
  go_ret
  exact ⟨rfl, grown_drewN _ _⟩

theorem no_bytes (a0 : ByteArray) (a1 : ByteArray) (w0 : a0.size ≤ maxLen) (w1 : a1.size ≤ maxLen) (hb : ¬ a0.size + a1.size ≤ 1048576) (w : World) :
    Calls Try.prog 3 #[.string a0, .string a1] w fun e w' => e = .returned (.bool true) ∧ Grown w w' := by
  go_enter Try.func3, Try.ntmps3
  go_wp2_with fail
  refine (bytes_no _ _ _ w0 w1 hb).mono ?_
  rintro e w' ⟨rfl, rfl⟩
  go_wp2_with fail
  go_ret
  exact ⟨rfl, Grown.refl _⟩

theorem long_0 (a0 : ByteArray) (a1 : ByteArray) (hb : a0.size + a1.size ≤ 1048576) (h0 : ¬ a0.size ≤ 65536) (w : World) :
    Calls Try.prog 3 #[.string a0, .string a1] w fun e w' => e = .returned (.bool true) ∧ Grown w w' := by
  have h : (65536 : Int) < (a0.size : Int) := by omega
  clear h0
  go_enter Try.func3, Try.ntmps3
  go_wp2_with fail
  refine (bytes_yes _ _ _ hb).mono ?_
  rintro e w' ⟨rfl, rfl⟩
  go_wp2_with fail
  go_ret
  exact ⟨rfl, Grown.refl _⟩

theorem long_1 (a0 : ByteArray) (a1 : ByteArray) (hb : a0.size + a1.size ≤ 1048576) (h0 : a0.size ≤ 65536) (h1 : ¬ a1.size ≤ 65536) (w : World) :
    Calls Try.prog 3 #[.string a0, .string a1] w fun e w' => e = .returned (.bool true) ∧ Grown w w' := by
  have h : (65536 : Int) < (a1.size : Int) := by omega
  have h' : ¬ (65536 : Int) < (a0.size : Int) := by omega
  clear h0 h1
  go_enter Try.func3, Try.ntmps3
  go_wp2_with fail
  refine (bytes_yes _ _ _ hb).mono ?_
  rintro e w' ⟨rfl, rfl⟩
  go_wp2_with fail
  go_ret
  exact ⟨rfl, Grown.refl _⟩

theorem law (a0 : ByteArray) (a1 : ByteArray) (w0 : a0.size ≤ maxLen) (w1 : a1.size ≤ maxLen) (w : World) :
    Calls Try.prog 3 #[.string a0, .string a1] w fun e w' => e = .returned (.bool true) ∧ Grown w w' := by
  by_cases hb : a0.size + a1.size ≤ 1048576
  · by_cases h0 : a0.size ≤ 65536
    · by_cases h1 : a1.size ≤ 65536
      · exact core E0 preB sufB E0_size E0_pre E0_suf (fun a w h => granted a w h) (fun w => granted _ w (by show 0 ≤ _; exact Nat.zero_le _)) index_at a0 a1 hb h0 h1 w
      · exact long_1 a0 a1 hb h0 h1 w
    · exact long_0 a0 a1 hb h0 w
  · exact no_bytes a0 a1 w0 w1 hb w

end Go.Proofs.Qxb6618318a.Gf
