/-
  SEAT b6618487a: cloneStrings (11).
-/
import Derived.Test.Qxb6618487aDcZz
namespace Go.Proofs.Qxb6618487a.Dc
open Go.RowKit Go.Maps

theorem info9 : (Try.prog.info? 9).map (fun i => (i.zero, i.size, i.bytes)) = some (some (.string ByteArray.empty), 1, 16) := by kernel_rfl

/-- The row after k rounds. -/
def rowAt (ss : List ByteArray) (k : Nat) : List Value := (ss.take k).map Value.string ++ List.replicate (ss.length - k) (.string ByteArray.empty)

theorem rowAt_zero (ss : List ByteArray) : rowAt ss 0 = List.replicate ss.length (.string ByteArray.empty) := by simp [rowAt]
theorem rowAt_end (ss : List ByteArray) : rowAt ss ss.length = ss.map Value.string := by simp [rowAt]
theorem rowAt_get (ss : List ByteArray) (k : Nat) (h : k < ss.length) : (rowAt ss k)[k]? = some (.string ByteArray.empty) := by
  unfold rowAt
  rw [List.getElem?_append_right (by simp; omega), List.getElem?_replicate]
  simp
  omega
theorem rowAt_set (ss : List ByteArray) (k : Nat) (h : k < ss.length) : (rowAt ss k).set k (.string (ss.getD k ByteArray.empty)) = rowAt ss (k + 1) := by
  unfold rowAt
  have hl : ((ss.take k).map Value.string).length = k := by simp; omega
  rw [List.set_append_right _ _ (by omega), hl, Nat.sub_self]
  have e1 : ss.length - k = (ss.length - (k + 1)) + 1 := by omega
  rw [e1, List.replicate_succ, List.set_cons_zero, List.take_succ_eq_append_getElem h, List.map_append, List.append_assoc]
  congr 1
  simp [List.getD_eq_getElem?_getD, List.getElem?_eq_getElem h]

theorem ownsRow_strs {w : World} {base : Nat} {v : Value} {ss : List ByteArray} (h : w.ownsRow base 9 1 v ss.length (ss.map Value.string)) : IsStrs w v ss := by
  rcases h.2 with ⟨rfl, hn⟩ | ⟨g, cap, cur, rfl, hb, hg, hnc, hcm, hcs, htake⟩
  · exact .inl ⟨List.eq_nil_of_length_eq_zero hn, none, 0, rfl⟩
  · refine .inr ⟨g, 0, cap, rfl, fun i hi => ?_⟩
    rw [Nat.zero_add, h.cellAt i (by omega)]
    simp [List.getD_eq_getElem?_getD, List.getElem?_eq_getElem hi]

theorem eql_nil (w : World) (a : Option Addr) (n c : Nat) : (binOp .eql 22 (.slice a n c) (.slice none 0 0)).run Try.prog w = .ok (.bool a.isNone) w :=
  Lib.run_eql_slice_nil w 22 9 a n c 0 0 Try.underlying22

set_option maxRecDepth 100000 in
theorem clone_nil (w : World) (c : Nat) :
    Calls Try.prog 11 #[.slice none 0 c] w fun e w' => e = .returned (.slice none 0 0) ∧ w' = w := by
  have hq := eql_nil w
  go_enter Try.func11, Try.ntmps11
  go_wp2
  go_ret
  exact ⟨rfl, rfl⟩

/-- What comes back: a slice of the call's own that holds the strings; nothing else has turned. -/
def Cloned (w w' : World) (v : Value) (ss : List ByteArray) : Prop := w'.ownsRow w.heap.size 9 1 v ss.length (ss.map Value.string) ∧ Kept (fun _ => False) w w'

set_option maxRecDepth 100000 in
set_option maxHeartbeats 400000 in
theorem clone_none (w : World) (x : Addr) (c : Nat) :
    Calls Try.prog 11 #[.slice (some x) 0 c] w fun e w' => ∃ v, e = .returned v ∧ Cloned w w' v [] := by
  have hq := eql_nil w
  obtain ⟨i0, hi, hz0, hz1, hz2⟩ := info_parts info9
  have HI : Hid (Try.prog.info? 9 = some i0 ∧ i0.zero = some (.string ByteArray.empty) ∧ i0.size = 1 ∧ i0.bytes = 16) := ⟨hi, hz0, hz1, hz2⟩
  clear hi hz0 hz1 hz2
  go_enter Try.func11, Try.ntmps11
  go_wp2_with (at_make; refine wpList_make_full _ rfl _ _ 22 rfl w.heap.size 9 i0 (.string ByteArray.empty) 1 Try.underlying22 HI.out.1 HI.out.2.1 HI.out.2.2.1 _ _ _ _ 0 rfl rfl rfl rfl (by omega) (by unfold maxLen; omega) (Nat.le_refl _) ?_; intro w1 hown hgrow)
  refine wp_loop_rounds 1 ?_
  rw [rounds_succ]
  go_wp2
  go_ret
  exact ⟨_, rfl, by simpa [madeCells] using hown, (Kept.of_grown hgrow).mono (fun _ _ e => by cases e)⟩

set_option maxRecDepth 100000 in
set_option maxHeartbeats 1000000 in
theorem clone_row (w : World) (ss : List ByteArray) (hn : ss.length ≤ 65536) (b off c : Nat) (hc : ∀ i, i < ss.length → w.cell? ⟨b, off + i, none⟩ = some (.string (ss.getD i ByteArray.empty))) :
    Calls Try.prog 11 #[.slice (some ⟨b, off, none⟩) ss.length c] w fun e w' => ∃ v, e = .returned v ∧ Cloned w w' v ss := by
  have hq := eql_nil w
  obtain ⟨i0, hi, hz0, hz1, hz2⟩ := info_parts info9
  have HI : Hid (Try.prog.info? 9 = some i0 ∧ i0.zero = some (.string ByteArray.empty) ∧ i0.size = 1 ∧ i0.bytes = 16) := ⟨hi, hz0, hz1, hz2⟩
  have HC : Hid (∀ i, i < ss.length → w.cell? ⟨b, off + i, none⟩ = some (.string (ss.getD i ByteArray.empty))) := hc
  clear hi hz0 hz1 hz2 hc
  go_enter Try.func11, Try.ntmps11
  go_wp2_with (at_make; refine wpList_make_full _ rfl _ _ 22 rfl w.heap.size 9 i0 (.string ByteArray.empty) 1 Try.underlying22 HI.out.1 HI.out.2.1 HI.out.2.2.1 _ _ _ _ ss.length rfl rfl rfl rfl (by rw [HI.out.2.2.2]; omega) (by unfold maxLen; omega) (Nat.le_refl _) ?_; intro w1 hown hgrow)
  have HO : Hid (w1.ownsRow w.heap.size 9 1 (.slice (some ⟨w.heap.size, 0, none⟩) ss.length ss.length) ss.length (rowAt ss 0)) := by
    rw [rowAt_zero]
    have h := hown
    simp [Value.cells, toList_madeCells_one] at h
    exact h
  have HK : Hid (Kept (fun _ => False) w w1) := (Kept.of_grown hgrow).mono (fun _ _ e => by cases e)
  clear hown hgrow hq
  go_loopw [4] (fun i wr => ∃ k : Nat, k ≤ ss.length ∧ i = .int .i64 k ∧ Hid (wr.ownsRow w.heap.size 9 1 (.slice (some ⟨w.heap.size, 0, none⟩) ss.length ss.length) ss.length (rowAt ss k)) ∧ Hid (Kept (fun _ => False) w wr)) (fun i _ => ss.length - (intOf i).toNat)
  case atStart => exact ⟨0, Nat.zero_le _, rfl, HO, HK⟩
  case round =>
    obtain ⟨k, hk, rfl, HO', HK'⟩ := hrel
    by_cases hlt : k < ss.length
    · have c1 := HK'.out.cell (HC.out k hlt) (fun h => h)
      have c2 : wr.cell? ⟨w.heap.size, k, none⟩ = some (.string ByteArray.empty) := by rw [HO'.out.cellAt k (by omega), rowAt_get ss k hlt]
      have f2 := HO'.out.frozenAt k
      have hst := HO'.out.stored k (.string (ss.getD k ByteArray.empty))
      rw [rowAt_set ss k hlt] at hst
      have HS : Hid ((wr.setCell ⟨w.heap.size, k, none⟩ (.string (ss.getD k ByteArray.empty))).ownsRow w.heap.size 9 1 (.slice (some ⟨w.heap.size, 0, none⟩) ss.length ss.length) ss.length (rowAt ss (k + 1)) ∧ wr.grownBy (wr.setCell ⟨w.heap.size, k, none⟩ (.string (ss.getD k ByteArray.empty))) (some w.heap.size)) := hst
      clear hst
      generalize ss.getD k ByteArray.empty = s at c1 HS
      go_wp2
      go_roundw
      case rel =>
        refine ⟨k + 1, by omega, by go_num, HS.out.1, ?_⟩
        exact ((HK'.out.trans (Kept.of_grown HS.out.2)).mono (fun j hj e => by
          rcases e with e | e
          · exact e
          · simp at e; omega))
      case measure => simp [intOf]; omega
    · obtain rfl : k = ss.length := by omega
      go_wp2
      go_ret
      exact ⟨_, rfl, by rw [← rowAt_end]; exact HO'.out, HK'.out⟩

theorem clone_calls (w : World) (ss : List ByteArray) (hn : ss.length ≤ 65536) (v : Value) (hv : IsStrs w v ss) :
    Calls Try.prog 11 #[v] w fun e w' => ∃ v', e = .returned v' ∧ Cloned w w' v' ss := by
  rcases hv with ⟨rfl, a, c, rfl⟩ | ⟨b, off, c, rfl, hc⟩
  · cases a with
    | none => exact (clone_nil w c).mono fun e w' ⟨he, hw⟩ => ⟨_, he, by subst hw; exact ⟨World.ownsRow_nil _ _ _ _, Kept.refl _ _⟩⟩
    | some x => exact clone_none w x c
  · exact clone_row w ss hn b off c hc

end Go.Proofs.Qxb6618487a.Dc
