/-
  THE WALKS OF SEAT b6618318a: zzBytes (4), grantedFrom (7), ZZgrantedFrom (5), zzIndex (6).
-/
import Derived.Test.Qxb6618318aRows
import Derived.WalkKit
import Derived.WalkSpells
import Derived.LoopTactic
import Derived.Below
import Derived.Deep.QuietTactic
import Derived.BigQuiet
namespace Go.Proofs.Qxb6618318a.Gf
open Go.RowKit

theorem bytes_yes (a b : ByteArray) (w : World) (h : a.size + b.size ≤ 1048576) :
    Calls Try.prog 4 #[.string a, .string b] w fun e w' => e = .returned (.bool true) ∧ w' = w := by
  have h1 : ¬ (1048576 : Int) < (a.size : Int) := by omega
  have h2 : ¬ (1048576 : Int) < (b.size : Int) := by omega
  have h3 : ¬ (1048576 : Int) < (a.size : Int) + (b.size : Int) := by omega
  go_enter Try.func4, Try.ntmps4
  go_wp2
  go_ret
  exact ⟨rfl, rfl⟩

theorem bytes_no (a b : ByteArray) (w : World) (ha : a.size ≤ maxLen) (hb : b.size ≤ maxLen) (h : ¬ a.size + b.size ≤ 1048576) :
    Calls Try.prog 4 #[.string a, .string b] w fun e w' => e = .returned (.bool false) ∧ w' = w := by
  unfold maxLen at ha hb
  go_enter Try.func4, Try.ntmps4
  go_wp2
  all_goals first
    | (go_ret; exact ⟨rfl, rfl⟩)
    | (exfalso; omega)


/-- The template ahead of the name: it ends with 'FROM '. -/
def preB : ByteArray := ⟨#[10, 9, 103, 114, 97, 110, 116, 101, 100, 32, 65, 83, 32, 40, 10, 9, 9, 73, 78, 83, 69, 82, 84, 32, 73, 78, 84, 79, 32, 103, 114, 97, 110, 116, 115, 32, 40, 114, 101, 100, 101, 109, 112, 116, 105, 111, 110, 95, 105, 100, 44, 32, 99, 111, 100, 101, 44, 32, 99, 117, 115, 116, 111, 109, 101, 114, 44, 32, 117, 110, 105, 116, 44, 32, 97, 109, 111, 117, 110, 116, 44, 32, 101, 120, 112, 105, 114, 101, 115, 95, 97, 116, 41, 10, 9, 9, 83, 69, 76, 69, 67, 84, 32, 101, 46, 114, 101, 100, 101, 109, 112, 116, 105, 111, 110, 95, 105, 100, 44, 32, 101, 46, 99, 111, 100, 101, 44, 32, 101, 46, 99, 117, 115, 116, 111, 109, 101, 114, 44, 32, 103, 46, 117, 110, 105, 116, 44, 32, 103, 46, 97, 109, 111, 117, 110, 116, 44, 32, 101, 46, 103, 114, 97, 110, 116, 115, 95, 101, 120, 112, 105, 114, 101, 95, 97, 116, 10, 9, 9, 70, 82, 79, 77, 32]⟩
/-- The template behind the name. -/
def sufB : ByteArray := ⟨#[32, 101, 44, 32, 117, 110, 110, 101, 115, 116, 40, 101, 46, 103, 114, 97, 110, 116, 95, 117, 110, 105, 116, 115, 44, 32, 101, 46, 103, 114, 97, 110, 116, 95, 97, 109, 111, 117, 110, 116, 115, 41, 32, 65, 83, 32, 103, 32, 40, 117, 110, 105, 116, 44, 32, 97, 109, 111, 117, 110, 116, 41, 41]⟩

set_option maxRecDepth 100000 in
set_option maxHeartbeats 400000 in
theorem granted (a : ByteArray) (w : World) (ha : a.size ≤ 65536) :
    Calls Try.prog 5 #[.string a] w fun e w' => e = .returned (.string (preB ++ a ++ sufB)) ∧ w' = w := by
  go_enter Try.func5, Try.ntmps5
  go_wp2
  go_ret
  exact ⟨rfl, rfl⟩

set_option maxHeartbeats 1000000 in
theorem index_calls (s t : ByteArray) (k : Nat) (w : World) (hs : s.size ≤ 65536) (hk : k + t.size ≤ s.size)
    (hhit : ∀ j (hj : j < t.size), s[k + j] = t[j]) (hmiss : ∀ i, i < k → ∃ j, ∃ (hj : j < t.size), ∃ (hi : i + j < s.size), s[i + j] ≠ t[j]) :
    Calls Try.prog 6 #[.string s, .string t] w fun e w' => e = .returned (.int .i64 k) ∧ ∃ n, w' = w.drewN n := by
  have HH : Hid (∀ j (hj : j < t.size), s[k + j] = t[j]) := hhit
  have HM : Hid (∀ i, i < k → ∃ j, ∃ (hj : j < t.size), ∃ (hi : i + j < s.size), s[i + j] ≠ t[j]) := hmiss
  clear hhit hmiss
  have h12 : decide (s.size < t.size) = false := decide_eq_false (by omega)
  go_enter Try.func6, Try.ntmps6
  go_wp2
  go_loopw [5, 6, 7] (fun i _ _ wr => ∃ c n : Nat, c ≤ k ∧ i = .int .i64 c ∧ wr = w.drewN n) (fun i _ _ _ => k + 1 - (intOf i).toNat)
  case atStart => exact ⟨0, 0, Nat.zero_le _, rfl, rfl⟩
  case round =>
    obtain ⟨c, n, hc, rfl, rfl⟩ := hrel
    have hle : (c : Int) + (t.size : Int) ≤ (s.size : Int) := by omega
    go_wp2
    go_loopw [6, 7] (fun o j wr => ∃ d m : Nat, d ≤ t.size ∧ j = .int .i64 d ∧ o = .bool true ∧ wr = w.drewN m ∧ Hid (∀ x (hx : x < d) (ht : x < t.size) (hq : c + x < s.size), s[c + x] = t[x])) (fun _ j _ => t.size - (intOf j).toNat)
    case atStart => exact ⟨0, n, Nat.zero_le _, rfl, rfl, rfl, fun x hx => absurd hx (Nat.not_lt_zero _)⟩
    case round =>
      obtain ⟨d, m, hd, rfl, rfl, rfl, HD⟩ := hrel
      by_cases hlt : d < t.size
      · have hq : c + d < s.size := by omega
        have hwr : IntKind.i64.wrap ((c : Int) + (d : Int)) = (c : Int) + (d : Int) := IntWalk.i64_in _ (by omega)
        have hqi : (c : Int) + (d : Int) < (s.size : Int) := by omega
        have hq0 : 0 ≤ (c : Int) + (d : Int) := by omega
        have hqt : ((c : Int) + (d : Int)).toNat = c + d := by omega
        have hti : (d : Int) < (t.size : Int) := by omega
        by_cases heq : s[c + d] = t[d]
        · have hne : ((s[c+d].toNat : Int) != (t[d].toNat : Int)) = false := by simp [heq]
          have HE : Hid (s[c + d] = t[d]) := heq
          clear heq
          go_wp2
          go_quiet (fail)
          go_wp2
          go_roundw
          case rel =>
            refine ⟨d + 1, _, by omega, by go_num, rfl, rfl, fun x hx ht hq' => ?_⟩
            by_cases hxd : x < d
            · exact HD.out x hxd ht hq'
            · obtain rfl : x = d := by omega
              exact HE.out
          case measure => simp [intOf]; omega
        · have hne : ((s[c+d].toNat : Int) != (t[d].toNat : Int)) = true := by
            rw [bne_iff_ne]; intro h; exact heq (UInt8.toNat_inj.1 (by omega))
          have hck : c < k := by
            rcases Nat.lt_or_ge c k with h | h
            · exact h
            · obtain rfl : c = k := by omega
              exact absurd (HH.out d hlt) heq
          have HE : Hid (¬ s[c + d] = t[d]) := heq
          clear heq
          go_wp2
          go_quiet (fail)
          go_wp2
          go_roundw
          case rel => exact ⟨c + 1, _, by omega, by go_num, rfl⟩
          case measure => simp [intOf]; omega
      · have hck : c = k := by
          rcases Nat.lt_or_ge c k with h | h
          · obtain ⟨j, hj, hi, hne⟩ := HM.out c h
            exact absurd (HD.out j (by omega) hj hi) hne
          · omega
        subst hck
        go_wp2
        go_ret
        exact ⟨rfl, _, rfl⟩

end Go.Proofs.Qxb6618318a.Gf
