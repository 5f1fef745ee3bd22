/-
  SEAT b6618498a: ZZTextQuoteWrite (7), ZZNewTextQuote (6), ZZTextQuoteHead (9), ZZTextQuoteN (10), zzBytesEqual (8), the bound laid by program (5).
-/
import Derived.Test.Qxb6618498aTqWrite
namespace Go.Proofs.Qxb6618498a.Tq
open Go.RowKit

theorem write_calls (w : World) (base d : Nat) (v : Value) (H : List Nat) (n : Nat) (D : ByteArray) (u : Value) (hu : IsBytes w u (nats D)) (hT : TQ w base d v H n) (hH : H.length ≤ 100) (hn : n ≤ 2097152) (hs : D.size ≤ 1048576) (hb : base ≤ w.heap.size) :
    Calls Try.prog 7 #[.pointer (some ⟨d, 0, none⟩), u] w fun e w' => e = .returned (.tuple #[.int .i64 (D.size : Int), .nilIface]) ∧ ∃ v', Wrote w w' base d v v' H n (nats D) := by
  have H19 : Hid (Calls Try.prog 19 #[.pointer (some ⟨d, 0, none⟩), .string D] w fun e w' => e = .returned (.tuple #[.int .i64 (D.size : Int), .nilIface]) ∧ ∃ v', Wrote w w' base d v v' H n (nats D)) := ws_calls w base d v H n D hT hH hn hs hb
  have hc := convert_calls w u D hu
  obtain ⟨a, c, rfl⟩ := hu.shape
  clear hu hT hH hn hs hb
  have H16 : Hid (Calls Try.prog 16 #[.pointer (some ⟨d, 0, none⟩), .slice a (nats D).length c] w fun e w' => e = .returned (.tuple #[.int .i64 (D.size : Int), .nilIface]) ∧ ∃ v', Wrote w w' base d v v' H n (nats D)) := by
    show Calls Try.prog 16 #[.pointer (some ⟨d, 0, none⟩), .slice a (nats D).length c] w fun e w' => e = .returned (.tuple #[.int .i64 (D.size : Int), .nilIface]) ∧ ∃ v', Wrote w w' base d v v' H n (nats D)
    generalize (nats D).length = l at hc
    go_enter Try.func16, Try.ntmps16
    go_wp2_with fail
    refine H19.out.mono ?_
    rintro e w' ⟨rfl, h⟩
    have HW : Hid (∃ v', Wrote w w' base d v v' H n (nats D)) := h
    clear h
    go_wp2_with fail
    go_ret2
    exact ⟨rfl, HW.out⟩
  clear hc
  generalize (nats D).length = l at H16
  go_enter Try.func7, Try.ntmps7
  go_wp2_with fail
  refine H16.out.mono ?_
  rintro e w' ⟨rfl, h⟩
  have HW : Hid (∃ v', Wrote w w' base d v v' H n (nats D)) := h
  clear h
  go_wp2_with fail
  go_ret2
  exact ⟨rfl, HW.out⟩

/-- A new textQuote. -/
def emptyTQ : Obj := .cells #[.slice none 0 0, .int .i64 0] 42
theorem new_calls (w : World) : Calls Try.prog 6 #[] w fun e w' => e = .returned (.pointer (some ⟨w.heap.size, 0, none⟩)) ∧ w.alloc emptyTQ = w' := by
  go_enter Try.func6, Try.ntmps6
  go_wp2
  go_ret
  exact ⟨rfl, rfl⟩

theorem new_tq (w : World) (base : Nat) (hb : base ≤ w.heap.size) : TQ (w.alloc emptyTQ) base w.heap.size (.slice none 0 0) [] 0 :=
  ⟨heap_alloc_new w _, Owns_nil _ _, hb⟩

theorem head_calls (w : World) (d : Nat) (a : Option Addr) (n c : Nat) (h : w.cell? ⟨d, 0, none⟩ = some (.slice a n c)) : Calls Try.prog 9 #[.pointer (some ⟨d, 0, none⟩)] w fun e w' => e = .returned (.slice a n c) ∧ w' = w := by
  go_enter Try.func9, Try.ntmps9
  go_wp2
  go_ret
  exact ⟨rfl, rfl⟩

theorem n_calls (w : World) (d : Nat) (n : Int) (h : w.cell? ⟨d, 1, none⟩ = some (.int .i64 n)) : Calls Try.prog 10 #[.pointer (some ⟨d, 0, none⟩)] w fun e w' => e = .returned (.int .i64 n) ∧ w' = w := by
  go_enter Try.func10, Try.ntmps10
  go_wp2
  go_ret
  exact ⟨rfl, rfl⟩

theorem IsBytes.at_ {w : World} {x : Option Addr} {n c : Nat} {X : List Nat} (h : IsBytes w (.slice x n c) X) {i : Nat} (hi : i < X.length) : ∃ b off, x = some ⟨b, off, none⟩ ∧ w.cell? ⟨b, off + i, none⟩ = some (bv (X.getD i 0)) := by
  rcases h with ⟨rfl, _⟩ | ⟨b, off, c', e, hc⟩
  · simp at hi
  · exact ⟨b, off, (Value.slice.inj e).1, hc i hi⟩

set_option maxRecDepth 100000 in
set_option maxHeartbeats 1000000 in
theorem equal_calls (w : World) (X : List Nat) (hX : X.length ≤ 2097152) (u v : Value) (hu : IsBytes w u X) (hv : IsBytes w v X) :
    Calls Try.prog 8 #[u, v] w fun e w' => e = .returned (.bool true) ∧ ∃ q, w' = w.drewN q := by
  obtain ⟨a, c, rfl⟩ := hu.shape
  obtain ⟨b, c', rfl⟩ := hv.shape
  have HU : Hid (IsBytes w (.slice a X.length c) X) := hu
  have HV : Hid (IsBytes w (.slice b X.length c') X) := hv
  clear hu hv
  go_enter Try.func8, Try.ntmps8
  go_wp2
  go_loopw [5] (fun i wr => ∃ k m : Nat, k ≤ X.length ∧ i = .int .i64 k ∧ wr = w.drewN m) (fun i _ => X.length - (intOf i).toNat)
  case atStart => exact ⟨0, 0, Nat.zero_le _, rfl, rfl⟩
  case round =>
    obtain ⟨k, m, hk, rfl, rfl⟩ := hrel
    by_cases hlt : k < X.length
    · obtain ⟨ba, oa, hxa, fa⟩ := HU.out.at_ hlt
      obtain ⟨bb, ob, hxb, fb⟩ := HV.out.at_ hlt
      generalize X.getD k 0 = x at fa fb
      unfold bv at fa fb
      subst hxa hxb
      have i1 : (k : Int) < (X.length : Int) := by omega
      go_wp2
      go_quiet (fail)
      go_wp2
      go_roundw
      case rel => exact ⟨k + 1, _, by omega, by go_num, rfl⟩
      case measure => simp [intOf]; omega
    · go_wp2
      go_ret
      exact ⟨rfl, _, rfl⟩

set_option maxRecDepth 100000 in
theorem zz_yes (w : World) (a b : Option Addr) (n m c d : Nat) (h : n + m ≤ 1048576) : Calls Try.prog 5 #[.slice a n c, .slice b m d] w fun e w' => e = .returned (.bool true) ∧ w' = w := by
  have h1 : ¬ (1048576 : Int) < (n : Int) := by omega
  have h2 : ¬ (1048576 : Int) < (m : Int) := by omega
  have h3 : ¬ (1048576 : Int) < (n : Int) + (m : Int) := by omega
  go_enter Try.func5, Try.ntmps5
  go_wp2
  go_ret
  exact ⟨rfl, rfl⟩

set_option maxRecDepth 100000 in
theorem zz_no (w : World) (a b : Option Addr) (n m c d : Nat) (hn : n ≤ maxLen) (hm : m ≤ maxLen) (h : ¬ n + m ≤ 1048576) : Calls Try.prog 5 #[.slice a n c, .slice b m d] w fun e w' => e = .returned (.bool false) ∧ w' = w := by
  unfold maxLen at hn hm
  go_enter Try.func5, Try.ntmps5
  go_wp2
  all_goals first
    | (go_ret; exact ⟨rfl, rfl⟩)
    | (exfalso; omega)

end Go.Proofs.Qxb6618498a.Tq
