/-
  SEAT b6618487a: more walks that only read: keptAll (22) at whatever slice, attrsAre (36), addStringBytes (10).
-/
import Derived.Test.Qxb6618487aDcQuiet
namespace Go.Proofs.Qxb6618487a.Dc
open Go.RowKit Go.Maps

theorem kept_nil (w : World) (v1 v2 : Value) (a : Option Addr) (c : Nat) (skip : Bool) :
    Calls Try.prog 22 #[v1, .slice a 0 c, v2, .bool skip] w fun e w' => e = .returned (.bool true) ∧ w' = w := by
  go_enter Try.func22, Try.ntmps22
  go_wp2
  refine wp_loop_rounds 1 ?_
  rw [rounds_succ]
  go_wp2
  go_ret
  exact ⟨rfl, rfl⟩

theorem kept_calls (w : World) (b1 sz1 : Nat) (f1 : ByteArray → Option Nat) (h1 : IsM w b1 f1 sz1) (b2 sz2 : Nat) (f2 : ByteArray → Option Nat) (h2 : IsM w b2 f2 sz2)
    (ss : List ByteArray) (hlen : ss.length ≤ 65536) (hsz : ∀ s ∈ ss, s.size ≤ maxLen) (v : Value) (hv : IsStrs w v ss) (skip : Bool)
    (hall : ∀ s ∈ ss, Stays f1 f2 skip s) :
    Calls Try.prog 22 #[.map (some b1), v, .map (some b2), .bool skip] w fun e w' => e = .returned (.bool true) ∧ w' = w := by
  have hmem : ∀ i, i < ss.length → ss.getD i ByteArray.empty ∈ ss := fun i hi => by
    rw [List.getD_eq_getElem?_getD, List.getElem?_eq_getElem hi]
    exact List.getElem_mem hi
  rcases hv with ⟨rfl, a, c, rfl⟩ | ⟨b, off, c, rfl, hc⟩
  · exact kept_nil w _ _ a c skip
  · exact kept_row w b1 sz1 f1 h1 b2 sz2 f2 h2 ss hlen (fun i hi => hsz _ (hmem i hi)) b off c hc skip (fun i hi => hall _ (hmem i hi))

/-- The attribute "id". -/
def idN : ByteArray := ⟨#[105, 100]⟩

set_option maxRecDepth 100000 in
set_option maxHeartbeats 1000000 in
theorem attrs_row (w : World) (n g : Nat) (ids : Int) (hg : (g : Int) = n + ids) (h0 : 0 ≤ ids) (h2 : ids ≤ 2) (hn : n ≤ 65536) (bg og cg : Nat) (G : Nat → ByteArray)
    (hcg : ∀ i, i < g → w.cell? ⟨bg, og + i, none⟩ = some (.string (G i))) (hid : ∀ i, n ≤ i → i < g → G i = idN)
    (aw : Option Addr) (cw : Nat) (hcw : ∀ i, i < n → ∃ b off, aw = some ⟨b, off, none⟩ ∧ w.cell? ⟨b, off + i, none⟩ = some (.string (G i))) :
    Calls Try.prog 36 #[.slice (some ⟨bg, og, none⟩) g cg, .slice aw n cw, .int .i64 ids] w fun e w' => e = .returned (.bool true) ∧ ∃ m, w' = w.drewN m := by
  have ht : ((g : Int) != (n : Int) + ids) = false := by simp [hg]
  have hgn : (n : Int) ≤ (g : Int) := by omega
  have hg6 : (g : Int) ≤ 65538 := by omega
  have HG : Hid ((g : Int) = n + ids) := hg
  have HC : Hid (∀ i, i < g → w.cell? ⟨bg, og + i, none⟩ = some (.string (G i))) := hcg
  have HI : Hid (∀ i, n ≤ i → i < g → G i = idN) := hid
  clear hg hcg hid
  by_cases hn0 : n = 0
  · subst hn0
    clear hcw
    have ht0 : ((g : Int) != ids) = false := by have := HG.out; simp; omega
    go_enter Try.func36, Try.ntmps36
    go_wp2
    refine wp_loop_rounds 1 ?_
    rw [rounds_succ]
    go_wp2
    go_loopw [8] (fun i wr => ∃ k m : Nat, 0 ≤ k ∧ k ≤ g ∧ i = .int .i64 k ∧ wr = w.drewN m) (fun i _ => g - (intOf i).toNat)
    case atStart => exact ⟨0, 0, Nat.le_refl _, by omega, rfl, rfl⟩
    case round =>
      obtain ⟨k, m, hk0, hk, rfl, rfl⟩ := hrel
      by_cases hlt : k < g
      · have c1 := HC.out k hlt
        rw [HI.out k (by omega) hlt] at c1
        unfold idN at c1
        go_wp2
        go_roundw
        case rel => exact ⟨k + 1, m, by omega, by omega, by go_num, rfl⟩
        case measure => simp [intOf]; omega
      · go_wp2
        go_ret
        exact ⟨rfl, _, rfl⟩
  · obtain ⟨b, off, rfl, _⟩ := hcw 0 (by omega)
    have HW : Hid (∀ i, i < n → w.cell? ⟨b, off + i, none⟩ = some (.string (G i))) := fun i hi => by
      obtain ⟨b', off', e, h⟩ := hcw i hi
      cases e
      exact h
    clear hcw
    go_enter Try.func36, Try.ntmps36
    go_wp2
    go_loopw [7] (fun i wr => ∃ k m : Nat, k ≤ n ∧ i = .int .i64 k ∧ wr = w.drewN m) (fun i _ => n - (intOf i).toNat)
    case atStart => exact ⟨0, 0, Nat.zero_le _, rfl, rfl⟩
    case round =>
      obtain ⟨k, m, hk, rfl, rfl⟩ := hrel
      by_cases hlt : k < n
      · have c1 := HC.out k (by omega)
        have c2 := HW.out k hlt
        have i1 : (k : Int) < (g : Int) := by omega
        have i2 : (k : Int) < (n : Int) := by omega
        go_wp2
        go_quiet (fail)
        go_wp2
        go_roundw
        case rel => exact ⟨k + 1, _, by omega, by go_num, rfl⟩
        case measure => simp [intOf]; omega
      · go_wp2
        go_loopw [8] (fun i wr => ∃ k m : Nat, n ≤ k ∧ k ≤ g ∧ i = .int .i64 k ∧ wr = w.drewN m) (fun i _ => g - (intOf i).toNat)
        case atStart => exact ⟨n, m, Nat.le_refl _, by omega, rfl, rfl⟩
        case round =>
          obtain ⟨k, m, hk0, hk, rfl, rfl⟩ := hrel
          by_cases hlt : k < g
          · have c1 := HC.out k hlt
            rw [HI.out k (by omega) hlt] at c1
            unfold idN at c1
            go_wp2
            go_roundw
            case rel => exact ⟨k + 1, m, by omega, by omega, by go_num, rfl⟩
            case measure => simp [intOf]; omega
          · go_wp2
            go_ret
            exact ⟨rfl, _, rfl⟩

end Go.Proofs.Qxb6618487a.Dc
