/-
  SEAT b6618487a: attrsAre (36) at whatever slices; addStringBytes (10); the two bounds laid by program (9, 19).
-/
import Derived.Test.Qxb6618487aDcAttrs
namespace Go.Proofs.Qxb6618487a.Dc
open Go.RowKit Go.Maps

theorem attrs_calls (w : World) (ss : List ByteArray) (hn : ss.length ≤ 65536) (m : Nat) (h1 : 1 ≤ m) (h2 : m ≤ 2) (got want : Value)
    (hg : IsStrs w got (ss ++ List.replicate m idN)) (hw : IsStrs w want ss) :
    Calls Try.prog 36 #[got, want, .int .i64 (m : Int)] w fun e w' => e = .returned (.bool true) ∧ ∃ n, w' = w.drewN n := by
  have hl : (ss ++ List.replicate m idN).length = ss.length + m := by simp
  have hpre : ∀ i, i < ss.length → (ss ++ List.replicate m idN).getD i ByteArray.empty = ss.getD i ByteArray.empty := fun i hi => by
    simp only [List.getD_eq_getElem?_getD]
    rw [List.getElem?_append_left hi]
  have hpost : ∀ i, ss.length ≤ i → i < ss.length + m → (ss ++ List.replicate m idN).getD i ByteArray.empty = idN := fun i hi hi' => by
    simp only [List.getD_eq_getElem?_getD]
    rw [List.getElem?_append_right hi, List.getElem?_replicate, if_pos (by omega)]
    rfl
  rcases hg with ⟨h, _⟩ | ⟨bg, og, cg, rfl, hcg⟩
  · have := congrArg List.length h
    rw [hl] at this
    simp at this
    omega
  · rw [hl] at hcg ⊢
    obtain ⟨aw, cw, rfl⟩ : ∃ aw cw, want = .slice aw ss.length cw := by
      rcases hw with ⟨rfl, a, c, rfl⟩ | ⟨b, off, c, rfl, _⟩
      · exact ⟨a, c, rfl⟩
      · exact ⟨_, c, rfl⟩
    refine attrs_row w ss.length (ss.length + m) m (by omega) (by omega) (by omega) hn bg og cg (fun i => (ss ++ List.replicate m idN).getD i ByteArray.empty) hcg (fun i hi hi' => hpost i hi hi') aw cw ?_
    intro i hi
    rcases hw with ⟨rfl, _⟩ | ⟨b, off, c, e, hc⟩
    · simp at hi
    · refine ⟨b, off, ?_, ?_⟩
      · simpa using (Value.slice.inj e).1
      · show _ = some (Value.string ((ss ++ List.replicate m idN).getD i ByteArray.empty))
        rw [hpre i hi]
        exact hc i hi

set_option maxRecDepth 100000 in
set_option maxHeartbeats 1000000 in
theorem add_row (w : World) (t : Int) (h0 : 0 ≤ t) (h1 : t ≤ 1048576) (n : Nat) (hn : n ≤ 65536) (b off c : Nat) (G : Nat → ByteArray) (hG : ∀ i, i < n → (G i).size ≤ maxLen)
    (hc : ∀ i, i < n → w.cell? ⟨b, off + i, none⟩ = some (.string (G i))) :
    Calls Try.prog 10 #[.int .i64 t, .slice (some ⟨b, off, none⟩) n c] w fun e w' => (∃ r : Int, 0 ≤ r ∧ e = .returned (.int .i64 r)) ∧ w' = w := by
  have HC : Hid (∀ i, i < n → w.cell? ⟨b, off + i, none⟩ = some (.string (G i))) := hc
  have HG : Hid (∀ i, i < n → (G i).size ≤ maxLen) := hG
  clear hc hG
  go_enter Try.func10, Try.ntmps10
  go_wp2
  go_loop [0, 5] (fun t i => ∃ (k : Nat) (x : Int), k ≤ n ∧ i = .int .i64 k ∧ 0 ≤ x ∧ x ≤ 1048576 ∧ t = .int .i64 x) (fun _ i => n - (intOf i).toNat)
  case atStart => exact ⟨0, t, Nat.zero_le _, rfl, h0, h1, rfl⟩
  case round =>
    obtain ⟨k, x, hk, rfl, hx0, hx1, rfl⟩ := hrel
    by_cases hlt : k < n
    · have c1 := HC.out k hlt
      have g1 := HG.out k hlt
      generalize G k = s at c1 g1
      unfold maxLen at g1
      by_cases hs : (1048576 : Int) < (s.size : Int)
      · go_wp2
        go_ret
        exact ⟨⟨1048577, by omega, rfl⟩, rfl⟩
      · go_wp2
        · go_ret
          exact ⟨⟨_, by omega, rfl⟩, rfl⟩
        · go_round
          case rel => exact ⟨k + 1, _, by omega, by go_num, by omega, by omega, rfl⟩
          case measure => simp [intOf]; omega
    · go_wp2
      go_ret
      exact ⟨⟨_, hx0, rfl⟩, rfl⟩

theorem add_nil (w : World) (t : Int) (h0 : 0 ≤ t) (a : Option Addr) (c : Nat) :
    Calls Try.prog 10 #[.int .i64 t, .slice a 0 c] w fun e w' => (∃ r : Int, 0 ≤ r ∧ e = .returned (.int .i64 r)) ∧ w' = w := by
  go_enter Try.func10, Try.ntmps10
  go_wp2
  refine wp_loop_rounds 1 ?_
  rw [rounds_succ]
  go_wp2
  go_ret
  exact ⟨⟨_, h0, rfl⟩, rfl⟩

theorem getD_mem {ss : List ByteArray} {i : Nat} (hi : i < ss.length) : ss.getD i ByteArray.empty ∈ ss := by
  rw [List.getD_eq_getElem?_getD, List.getElem?_eq_getElem hi]
  exact List.getElem_mem hi

theorem add_calls (w : World) (t : Int) (h0 : 0 ≤ t) (h1 : t ≤ 1048576) (ss : List ByteArray) (hn : ss.length ≤ 65536) (hs : ∀ s ∈ ss, s.size ≤ maxLen) (v : Value) (hv : IsStrs w v ss) :
    Calls Try.prog 10 #[.int .i64 t, v] w fun e w' => (∃ r : Int, 0 ≤ r ∧ e = .returned (.int .i64 r)) ∧ w' = w := by
  rcases hv with ⟨rfl, a, c, rfl⟩ | ⟨b, off, c, rfl, hc⟩
  · exact add_nil w t h0 a c
  · exact add_row w t h0 h1 ss.length hn b off c (fun i => ss.getD i ByteArray.empty) (fun i hi => hs _ (getD_mem hi)) hc

end Go.Proofs.Qxb6618487a.Dc
