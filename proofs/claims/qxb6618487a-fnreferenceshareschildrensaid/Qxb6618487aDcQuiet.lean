/-
  SEAT b6618487a: the walks that only read: isDescriptionName (41), missingDescriptions (13), keptAll (22), attrsAre (36), addStringBytes (10).
-/
import Derived.Test.Qxb6618487aDcBase
import Derived.Lib.Builder
namespace Go.Proofs.Qxb6618487a.Dc
open Go.RowKit Go.Maps

def shortN : ByteArray := ⟨#[115, 104, 111, 114, 116, 45, 100, 101, 115, 99, 114, 105, 112, 116, 105, 111, 110]⟩
def longN : ByteArray := ⟨#[108, 111, 110, 103, 45, 100, 101, 115, 99, 114, 105, 112, 116, 105, 111, 110]⟩
theorem short_ne_long : shortN ≠ longN := by decide

/-- Is it one of the two names? -/
def isD (k : ByteArray) : Bool :=
  k.toList == [115, 104, 111, 114, 116, 45, 100, 101, 115, 99, 114, 105, 112, 116, 105, 111, 110] ||
    k.toList == [108, 111, 110, 103, 45, 100, 101, 115, 99, 114, 105, 112, 116, 105, 111, 110]

theorem isD_short : isD shortN = true := by simp [isD, shortN, ByteArray.toList_eq]
theorem isD_long : isD longN = true := by simp [isD, longN, ByteArray.toList_eq]
theorem isD_no {k : ByteArray} (h : isD k = false) : k ≠ shortN ∧ k ≠ longN :=
  ⟨fun e => (by rw [e, isD_short] at h; cases h), fun e => (by rw [e, isD_long] at h; cases h)⟩

theorem isD_calls (k : ByteArray) (w : World) : Calls Try.prog 41 #[.string k] w fun e w' => e = .returned (.bool (isD k)) ∧ w' = w := by
  go_enter Try.func41, Try.ntmps41
  go_wp2
  · rename_i h
    go_ret
    exact ⟨by simp [isD, h], rfl⟩
  · go_ret
    exact ⟨rfl, rfl⟩

/-- How many of the two names are missing. -/
def miss (f : ByteArray → Option Nat) : Int := (if (f shortN).isSome then 0 else 1) + (if (f longN).isSome then 0 else 1)

set_option maxRecDepth 100000 in
set_option maxHeartbeats 400000 in
theorem miss_calls (w : World) (b sz : Nat) (f : ByteArray → Option Nat) (h : IsM w b f sz) :
    Calls Try.prog 13 #[.map (some b)] w fun e w' => e = .returned (.int .i64 (miss f)) ∧ w' = w := by
  have hS : (Instr.lookup 26 (.map (some b)) (.string ⟨#[115, 104, 111, 114, 116, 45, 100, 101, 115, 99, 114, 105, 112, 116, 105, 111, 110]⟩) true).run Try.prog w = .ok (.tuple #[ptr (f shortN), .bool (f shortN).isSome]) w :=
    h.look_ok (s := shortN) (by decide)
  have hL : (Instr.lookup 26 (.map (some b)) (.string ⟨#[108, 111, 110, 103, 45, 100, 101, 115, 99, 114, 105, 112, 116, 105, 111, 110]⟩) true).run Try.prog w = .ok (.tuple #[ptr (f longN), .bool (f longN).isSome]) w :=
    h.look_ok (s := longN) (by decide)
  clear h
  unfold miss
  generalize f shortN = x at *
  generalize f longN = y at *
  cases x <;> cases y <;> simp only [Option.isSome_some, Option.isSome_none] at hS hL ⊢
  all_goals
    go_enter Try.func13, Try.ntmps13
    go_wp2
    go_ret
    exact ⟨rfl, rfl⟩


theorem info62 : (Try.prog.info? 62).isSome = true := by kernel_rfl
theorem neq_same (a : Addr) (w : World) : (binOp .neq 30 (.pointer (some a)) (.pointer (some a))).run Try.prog w = .ok (.bool false) w := by
  obtain ⟨j, hj⟩ := Option.isSome_iff_exists.1 info62
  exact Lib.run_neq_ptr_same w a Try.underlying30 hj

/-- What 'keptAll' asks of one key. -/
def Stays (f1 f2 : ByteArray → Option Nat) (skip : Bool) (k : ByteArray) : Prop := (skip = true ∧ isD k = true) ∨ ∃ B, f1 k = some B ∧ f2 k = some B

set_option maxRecDepth 100000 in
set_option maxHeartbeats 1000000 in
theorem kept_row (w : World) (b1 sz1 : Nat) (f1 : ByteArray → Option Nat) (h1 : IsM w b1 f1 sz1) (b2 sz2 : Nat) (f2 : ByteArray → Option Nat) (h2 : IsM w b2 f2 sz2)
    (ss : List ByteArray) (hlen : ss.length ≤ 65536) (hsz : ∀ i, i < ss.length → (ss.getD i ByteArray.empty).size ≤ maxLen) (b off c : Nat)
    (hc : ∀ i, i < ss.length → w.cell? ⟨b, off + i, none⟩ = some (.string (ss.getD i ByteArray.empty))) (skip : Bool)
    (hall : ∀ i, i < ss.length → Stays f1 f2 skip (ss.getD i ByteArray.empty)) :
    Calls Try.prog 22 #[.map (some b1), .slice (some ⟨b, off, none⟩) ss.length c, .map (some b2), .bool skip] w fun e w' => e = .returned (.bool true) ∧ w' = w := by
  have HC : Hid (∀ i, i < ss.length → w.cell? ⟨b, off + i, none⟩ = some (.string (ss.getD i ByteArray.empty))) := hc
  have HA : Hid (∀ i, i < ss.length → Stays f1 f2 skip (ss.getD i ByteArray.empty)) := hall
  have HZ : Hid (∀ i, i < ss.length → (ss.getD i ByteArray.empty).size ≤ maxLen) := hsz
  have H1 : Hid (IsM w b1 f1 sz1) := h1
  have H2 : Hid (IsM w b2 f2 sz2) := h2
  clear hc hall hsz h1 h2
  go_enter Try.func22, Try.ntmps22
  go_wp2
  go_loop [9] (fun i => ∃ k : Nat, k ≤ ss.length ∧ i = .int .i64 k) (fun i => ss.length - (intOf i).toNat)
  case atStart => exact ⟨0, Nat.zero_le _, rfl⟩
  case round =>
    obtain ⟨k, hk, rfl⟩ := hrel
    by_cases hlt : k < ss.length
    · have hcell := HC.out k hlt
      have hS := HA.out k hlt
      have hz := HZ.out k hlt
      generalize ss.getD k ByteArray.empty = s at hcell hS hz
      have HS : Hid (Stays f1 f2 skip s) := hS
      clear hS
      have l1 := H1.out.look_ok hz
      have l2 := H2.out.look hz
      clear hz
      have hns := fun a => neq_same a w
      cases skip
      · rcases HS.out with ⟨h, _⟩ | ⟨B, e1, e2⟩
        · cases h
        · rw [e1] at l1
          rw [e2] at l2
          simp only [ptr, Option.map_some, Option.isSome_some] at l1 l2
          clear e1 e2
          go_wp2
          go_round
          case rel => exact ⟨k + 1, by omega, by go_num⟩
          case measure => simp [intOf]; omega
      · cases hd : isD s
        · rcases HS.out with ⟨_, h⟩ | ⟨B, e1, e2⟩
          · rw [hd] at h; cases h
          · rw [e1] at l1
            rw [e2] at l2
            simp only [ptr, Option.map_some, Option.isSome_some] at l1 l2
            clear e1 e2
            go_wp2_with (go_at_call 41; refine (isD_calls _ _).mono ?_; rintro e w' ⟨rfl, rfl⟩)
            go_round
            case rel => exact ⟨k + 1, by omega, by go_num⟩
            case measure => simp [intOf]; omega
        · clear l1 l2 hns
          go_wp2_with (go_at_call 41; refine (isD_calls _ _).mono ?_; rintro e w' ⟨rfl, rfl⟩)
          go_round
          case rel => exact ⟨k + 1, by omega, by go_num⟩
          case measure => simp [intOf]; omega
    · go_wp2
      go_ret
      exact ⟨rfl, rfl⟩

end Go.Proofs.Qxb6618487a.Dc
