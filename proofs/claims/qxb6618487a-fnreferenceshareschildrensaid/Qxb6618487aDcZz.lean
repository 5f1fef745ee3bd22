/-
  SEAT b6618487a: the two bounds laid by program (9, 19): each answers some bool and turns nothing.
-/
import Derived.Test.Qxb6618487aDcBounds
namespace Go.Proofs.Qxb6618487a.Dc
open Go.RowKit Go.Maps

/-- What a walk is told of a slice of strings that is only read. -/
def Reads (w : World) (x : Option Addr) (n : Nat) (G : Nat → ByteArray) : Prop :=
  n = 0 ∨ ∃ b off, x = some ⟨b, off, none⟩ ∧ ∀ i, i < n → w.cell? ⟨b, off + i, none⟩ = some (.string (G i)) ∧ (G i).size ≤ maxLen

/-- Some bool is handed back. -/
def SomeBool (e : Ending) : Prop := ∃ r : Bool, e = .returned (.bool r)
theorem SomeBool.mk (r : Bool) : SomeBool (.returned (.bool r)) := ⟨r, rfl⟩

set_option maxRecDepth 100000 in
set_option maxHeartbeats 2000000 in
theorem zz9_row (w : World) (s0 s1 : ByteArray) (hs0 : s0.size ≤ maxLen) (hs1 : s1.size ≤ maxLen) (x1 x2 : Option Addr) (n1 n2 c1 c2 : Nat) (hn1 : n1 ≤ maxLen) (hn2 : n2 ≤ maxLen) (G1 G2 : Nat → ByteArray)
    (h1 : Reads w x1 n1 G1) (h2 : Reads w x2 n2 G2) :
    Calls Try.prog 9 #[.string s0, .string s1, .slice x1 n1 c1, .slice x2 n2 c2] w fun e w' => SomeBool e ∧ w' = w := by
  unfold maxLen at hs0 hs1 hn1 hn2
  by_cases hA : s0.size + s1.size + n1 ≤ 1048576
  · have HG1 : Hid (n1 = 0 ∨ ∃ b off, x1 = some ⟨b, off, none⟩ ∧ ∀ i, i < n1 → w.cell? ⟨b, off + i, none⟩ = some (.string (G1 i)) ∧ (G1 i).size ≤ maxLen) := h1
    have HG2 : Hid (n2 = 0 ∨ ∃ b off, x2 = some ⟨b, off, none⟩ ∧ ∀ i, i < n2 → w.cell? ⟨b, off + i, none⟩ = some (.string (G2 i)) ∧ (G2 i).size ≤ maxLen) := h2
    clear h1 h2
    have t1 : ¬ (1048576 : Int) < (s0.size : Int) := by omega
    have t2 : ¬ (1048576 : Int) < (s1.size : Int) := by omega
    have t3 : ¬ (1048576 : Int) < (s0.size : Int) + (s1.size : Int) := by omega
    have t4 : ¬ (1048576 : Int) < (n1 : Int) := by omega
    have t5 : ¬ (1048576 : Int) < (s0.size : Int) + (s1.size : Int) + (n1 : Int) := by omega
    go_enter Try.func9, Try.ntmps9
    go_wp2
    go_loop [9, 10] (fun t i => ∃ (k : Nat) (x : Int), k ≤ n1 ∧ i = .int .i64 k ∧ 0 ≤ x ∧ x ≤ 1048576 ∧ t = .int .i64 x) (fun _ i => n1 - (intOf i).toNat)
    case atStart => exact ⟨0, _, Nat.zero_le _, rfl, by omega, by omega, rfl⟩
    case round =>
      clear t1 t2 t3 t4 t5 hA
      obtain ⟨k, x, hk, rfl, hx0, hx1, rfl⟩ := hrel
      by_cases hlt : k < n1
      · rcases HG1.out with h | ⟨b, off, rfl, hc⟩
        · exact absurd hlt (by omega)
        obtain ⟨c1, g1⟩ := hc k hlt
        clear hc
        generalize G1 k = s at c1 g1
        unfold maxLen at g1
        go_wp2
        · go_ret
          exact ⟨SomeBool.mk _, rfl⟩
        · go_ret
          exact ⟨SomeBool.mk _, rfl⟩
        · go_round
          case rel => exact ⟨k + 1, _, by omega, by go_num, by omega, by omega, rfl⟩
          case measure => simp [intOf]; omega
      · by_cases hB : x + n2 ≤ 1048576
        · have u1 : ¬ (1048576 : Int) < (n2 : Int) := by omega
          have u2 : ¬ (1048576 : Int) < x + (n2 : Int) := by omega
          go_wp2
          go_loop [9, 11] (fun t i => ∃ (k : Nat) (x : Int), k ≤ n2 ∧ i = .int .i64 k ∧ 0 ≤ x ∧ x ≤ 1048576 ∧ t = .int .i64 x) (fun _ i => n2 - (intOf i).toNat)
          case atStart => exact ⟨0, _, Nat.zero_le _, rfl, by omega, by omega, rfl⟩
          case round =>
            clear u1 u2 hB
            obtain ⟨k, x, hk, rfl, hx0, hx1, rfl⟩ := hrel
            by_cases hlt : k < n2
            · rcases HG2.out with h | ⟨b, off, rfl, hc⟩
              · exact absurd hlt (by omega)
              obtain ⟨c1, g1⟩ := hc k hlt
              clear hc
              generalize G2 k = s at c1 g1
              unfold maxLen at g1
              go_wp2
              · go_ret
                exact ⟨SomeBool.mk _, rfl⟩
              · go_ret
                exact ⟨SomeBool.mk _, rfl⟩
              · go_round
                case rel => exact ⟨k + 1, _, by omega, by go_num, by omega, by omega, rfl⟩
                case measure => simp [intOf]; omega
            · go_wp2
              go_ret
              exact ⟨SomeBool.mk _, rfl⟩
        · go_wp2
          all_goals first
            | (go_ret; exact ⟨SomeBool.mk _, rfl⟩)
            | (exfalso; omega)
  · go_enter Try.func9, Try.ntmps9
    go_wp2
    all_goals first
      | (go_ret; exact ⟨SomeBool.mk _, rfl⟩)
      | (exfalso; omega)

set_option maxRecDepth 100000 in
set_option maxHeartbeats 2000000 in
theorem zz19_row (w : World) (s0 s1 : ByteArray) (hs0 : s0.size ≤ maxLen) (hs1 : s1.size ≤ maxLen) (x1 x2 : Option Addr) (n1 n2 c1 c2 : Nat) (hn1 : n1 ≤ maxLen) (hn2 : n2 ≤ maxLen) (G1 G2 : Nat → ByteArray)
    (h1 : Reads w x1 n1 G1) (h2 : Reads w x2 n2 G2) :
    Calls Try.prog 19 #[.string s0, .string s1, .slice x1 n1 c1, .slice x2 n2 c2] w fun e w' => SomeBool e ∧ w' = w := by
  unfold maxLen at hs0 hs1 hn1 hn2
  by_cases hA : s0.size + s1.size + n1 ≤ 1048576
  · have HG1 : Hid (n1 = 0 ∨ ∃ b off, x1 = some ⟨b, off, none⟩ ∧ ∀ i, i < n1 → w.cell? ⟨b, off + i, none⟩ = some (.string (G1 i)) ∧ (G1 i).size ≤ maxLen) := h1
    have HG2 : Hid (n2 = 0 ∨ ∃ b off, x2 = some ⟨b, off, none⟩ ∧ ∀ i, i < n2 → w.cell? ⟨b, off + i, none⟩ = some (.string (G2 i)) ∧ (G2 i).size ≤ maxLen) := h2
    clear h1 h2
    have t1 : ¬ (1048576 : Int) < (s0.size : Int) := by omega
    have t2 : ¬ (1048576 : Int) < (s1.size : Int) := by omega
    have t3 : ¬ (1048576 : Int) < (s0.size : Int) + (s1.size : Int) := by omega
    have t4 : ¬ (1048576 : Int) < (n1 : Int) := by omega
    have t5 : ¬ (1048576 : Int) < (s0.size : Int) + (s1.size : Int) + (n1 : Int) := by omega
    go_enter Try.func19, Try.ntmps19
    go_wp2
    go_loop [9, 10] (fun t i => ∃ (k : Nat) (x : Int), k ≤ n1 ∧ i = .int .i64 k ∧ 0 ≤ x ∧ x ≤ 1048576 ∧ t = .int .i64 x) (fun _ i => n1 - (intOf i).toNat)
    case atStart => exact ⟨0, _, Nat.zero_le _, rfl, by omega, by omega, rfl⟩
    case round =>
      clear t1 t2 t3 t4 t5 hA
      obtain ⟨k, x, hk, rfl, hx0, hx1, rfl⟩ := hrel
      by_cases hlt : k < n1
      · rcases HG1.out with h | ⟨b, off, rfl, hc⟩
        · exact absurd hlt (by omega)
        obtain ⟨c1, g1⟩ := hc k hlt
        clear hc
        generalize G1 k = s at c1 g1
        unfold maxLen at g1
        go_wp2
        · go_ret
          exact ⟨SomeBool.mk _, rfl⟩
        · go_ret
          exact ⟨SomeBool.mk _, rfl⟩
        · go_round
          case rel => exact ⟨k + 1, _, by omega, by go_num, by omega, by omega, rfl⟩
          case measure => simp [intOf]; omega
      · by_cases hB : x + n2 ≤ 1048576
        · have u1 : ¬ (1048576 : Int) < (n2 : Int) := by omega
          have u2 : ¬ (1048576 : Int) < x + (n2 : Int) := by omega
          go_wp2
          go_loop [9, 11] (fun t i => ∃ (k : Nat) (x : Int), k ≤ n2 ∧ i = .int .i64 k ∧ 0 ≤ x ∧ x ≤ 1048576 ∧ t = .int .i64 x) (fun _ i => n2 - (intOf i).toNat)
          case atStart => exact ⟨0, _, Nat.zero_le _, rfl, by omega, by omega, rfl⟩
          case round =>
            clear u1 u2 hB
            obtain ⟨k, x, hk, rfl, hx0, hx1, rfl⟩ := hrel
            by_cases hlt : k < n2
            · rcases HG2.out with h | ⟨b, off, rfl, hc⟩
              · exact absurd hlt (by omega)
              obtain ⟨c1, g1⟩ := hc k hlt
              clear hc
              generalize G2 k = s at c1 g1
              unfold maxLen at g1
              go_wp2
              · go_ret
                exact ⟨SomeBool.mk _, rfl⟩
              · go_ret
                exact ⟨SomeBool.mk _, rfl⟩
              · go_round
                case rel => exact ⟨k + 1, _, by omega, by go_num, by omega, by omega, rfl⟩
                case measure => simp [intOf]; omega
            · go_wp2
              go_ret
              exact ⟨SomeBool.mk _, rfl⟩
        · go_wp2
          all_goals first
            | (go_ret; exact ⟨SomeBool.mk _, rfl⟩)
            | (exfalso; omega)
  · go_enter Try.func19, Try.ntmps19
    go_wp2
    all_goals first
      | (go_ret; exact ⟨SomeBool.mk _, rfl⟩)
      | (exfalso; omega)

theorem IsStrs.reads {w : World} {v : Value} {ss : List ByteArray} (h : IsStrs w v ss) (hs : ∀ s ∈ ss, s.size ≤ maxLen) :
    ∃ x c, v = .slice x ss.length c ∧ Reads w x ss.length (fun i => ss.getD i ByteArray.empty) := by
  rcases h with ⟨rfl, a, c, rfl⟩ | ⟨b, off, c, rfl, hc⟩
  · exact ⟨a, c, rfl, .inl rfl⟩
  · exact ⟨_, c, rfl, .inr ⟨b, off, rfl, fun i hi => ⟨hc i hi, hs _ (getD_mem hi)⟩⟩⟩

theorem zz9_calls (w : World) (s0 s1 : ByteArray) (hs0 : s0.size ≤ maxLen) (hs1 : s1.size ≤ maxLen) (ss tt : List ByteArray) (v1 v2 : Value) (hn1 : ss.length ≤ maxLen) (hn2 : tt.length ≤ maxLen)
    (hs : ∀ s ∈ ss, s.size ≤ maxLen) (ht : ∀ s ∈ tt, s.size ≤ maxLen) (h1 : IsStrs w v1 ss) (h2 : IsStrs w v2 tt) :
    Calls Try.prog 9 #[.string s0, .string s1, v1, v2] w fun e w' => SomeBool e ∧ w' = w := by
  obtain ⟨x1, c1, rfl, r1⟩ := h1.reads hs
  obtain ⟨x2, c2, rfl, r2⟩ := h2.reads ht
  exact zz9_row w s0 s1 hs0 hs1 x1 x2 _ _ c1 c2 hn1 hn2 _ _ r1 r2

theorem zz19_calls (w : World) (s0 s1 : ByteArray) (hs0 : s0.size ≤ maxLen) (hs1 : s1.size ≤ maxLen) (ss tt : List ByteArray) (v1 v2 : Value) (hn1 : ss.length ≤ maxLen) (hn2 : tt.length ≤ maxLen)
    (hs : ∀ s ∈ ss, s.size ≤ maxLen) (ht : ∀ s ∈ tt, s.size ≤ maxLen) (h1 : IsStrs w v1 ss) (h2 : IsStrs w v2 tt) :
    Calls Try.prog 19 #[.string s0, .string s1, v1, v2] w fun e w' => SomeBool e ∧ w' = w := by
  obtain ⟨x1, c1, rfl, r1⟩ := h1.reads hs
  obtain ⟨x2, c2, rfl, r2⟩ := h2.reads ht
  exact zz19_row w s0 s1 hs0 hs1 x1 x2 _ _ c1 c2 hn1 hn2 _ _ r1 r2

end Go.Proofs.Qxb6618487a.Dc
