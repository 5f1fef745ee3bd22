/-
  SEAT b6618497a: ZZaddSymbol (14), cloneBytesB1 (13), the bound laid by program (12).
-/
import Derived.Test.Qxb6618497aAxCalls
namespace Go.Proofs.Qxb6618497a.Ax
open Go.RowKit

/-- What 'addSymbol' leaves. -/
def Added (w w' : World) (base : Nat) (vd : Value) (X Y : List Nat) : Prop := Owns w' base vd (xr X Y) ∧ Kept (fun k => vd.ownBlock = some k) w w'

theorem xor21_any (w : World) (base : Nat) (vd vs : Value) (X Y : List Nat) (hX : Owns w base vd X) (hY : Owns w base vs Y) (hne : ∀ k, vd.ownBlock = some k → vs.ownBlock ≠ some k) (hx : X.length ≤ 524288) (hy : Y.length ≤ 524288) :
    Calls Try.prog 21 #[vd, vd, vs] w fun e w' => ∃ r, e = .returned (.int .i64 r) ∧ Added w w' base vd X Y := by
  by_cases h0 : X.length = 0 ∨ Y.length = 0
  · obtain ⟨a, c, rfl⟩ := hX.isBytes.shape
    obtain ⟨b, c', rfl⟩ := hY.isBytes.shape
    refine (xor21_none w a c b c' X.length Y.length h0 hx hy).mono ?_
    rintro e w' ⟨⟨r, rfl⟩, rfl⟩
    refine ⟨r, rfl, ?_, Kept.refl _ _⟩
    have e : xr X Y = X := by
      rcases h0 with h | h
      · rw [List.eq_nil_of_length_eq_zero h]; exact xr_nil_left Y
      · rw [List.eq_nil_of_length_eq_zero h]; exact xr_nil_right X
    rw [e]
    exact hX
  · rcases hX.2 with ⟨_, h⟩ | ⟨g, cap, cur, rfl, _⟩
    · omega
    rcases hY.2 with ⟨_, h⟩ | ⟨g', cap', cur', rfl, _⟩
    · omega
    refine (xor21 w base g g' cap cap' X Y hX hY (fun e => hne g rfl (by rw [e]; rfl)) (by omega) hx hy).mono ?_
    rintro e w' ⟨r, rfl, h1, h2⟩
    exact ⟨r, rfl, h1, h2.mono (fun k _ e => by rw [e]; rfl)⟩

theorem add_calls (w : World) (base : Nat) (vd vs : Value) (X Y : List Nat) (hX : Owns w base vd X) (hY : Owns w base vs Y) (hne : ∀ k, vd.ownBlock = some k → vs.ownBlock ≠ some k) (hx : X.length ≤ 524288) (hy : Y.length ≤ 524288) :
    Calls Try.prog 14 #[vd, vs] w fun e w' => e = .returned (.tuple #[]) ∧ Added w w' base vd X Y := by
  have H21 : Hid (Calls Try.prog 21 #[vd, vd, vs] w fun e w' => ∃ r, e = .returned (.int .i64 r) ∧ Added w w' base vd X Y) := xor21_any w base vd vs X Y hX hY hne hx hy
  clear hX hY hne hx hy
  have H20 : Hid (Calls Try.prog 20 #[vd, vd, vs] w fun e w' => ∃ r, e = .returned (.int .i64 r) ∧ Added w w' base vd X Y) := by
    show Calls Try.prog 20 #[vd, vd, vs] w fun e w' => ∃ r, e = .returned (.int .i64 r) ∧ Added w w' base vd X Y
    go_enter Try.func20, Try.ntmps20
    go_wp2_with fail
    refine H21.out.mono ?_
    rintro e w' ⟨r, rfl, h⟩
    go_wp2_with fail
    go_ret
    exact ⟨r, rfl, h⟩
  have H18 : Hid (Calls Try.prog 18 #[vd, vs] w fun e w' => e = .returned (.tuple #[]) ∧ Added w w' base vd X Y) := by
    show Calls Try.prog 18 #[vd, vs] w fun e w' => e = .returned (.tuple #[]) ∧ Added w w' base vd X Y
    go_enter Try.func18, Try.ntmps18
    go_wp2_with fail
    refine H20.out.mono ?_
    rintro e w' ⟨r, rfl, h⟩
    go_wp2_with fail
    go_end0
    exact ⟨rfl, h⟩
  go_enter Try.func14, Try.ntmps14
  go_wp2_with fail
  refine H18.out.mono ?_
  rintro e w' ⟨rfl, h⟩
  go_wp2_with fail
  go_end0
  exact ⟨rfl, h⟩

/-! ### cloneBytesB1 -/
/-- The row after k rounds. -/
def rowAt (X : List Nat) (k : Nat) : List Value := (X.take k).map bv ++ List.replicate (X.length - k) (bv 0)

theorem rowAt_zero (X : List Nat) : rowAt X 0 = List.replicate X.length (bv 0) := by simp [rowAt]
theorem rowAt_end (X : List Nat) : rowAt X X.length = X.map bv := by simp [rowAt]
theorem rowAt_get (X : List Nat) (k : Nat) (h : k < X.length) : (rowAt X k)[k]? = some (bv 0) := by
  unfold rowAt
  rw [List.getElem?_append_right (by simp; omega), List.getElem?_replicate]
  simp
  omega
theorem rowAt_set (X : List Nat) (k : Nat) (h : k < X.length) : (rowAt X k).set k (bv (X.getD k 0)) = rowAt X (k + 1) := by
  unfold rowAt
  have hl : ((X.take k).map bv).length = k := by simp; omega
  rw [List.set_append_right _ _ (by omega), hl, Nat.sub_self]
  have e1 : X.length - k = (X.length - (k + 1)) + 1 := by omega
  rw [e1, List.replicate_succ, List.set_cons_zero, List.take_succ_eq_append_getElem h, List.map_append, List.append_assoc]
  congr 1
  simp [List.getD_eq_getElem?_getD, List.getElem?_eq_getElem h]

/-- What comes back: a slice of the call's own that holds the bytes; nothing else has turned. -/
def Cloned (w w' : World) (v : Value) (X : List Nat) : Prop := Owns w' w.heap.size v X ∧ Kept (fun _ => False) w w'

set_option maxRecDepth 100000 in
theorem clone_nil (w : World) (c : Nat) : Calls Try.prog 13 #[.slice none 0 c] w fun e w' => e = .returned (.slice none 0 0) ∧ w' = w := by
  have hq := eql_nil w
  go_enter Try.func13, Try.ntmps13
  go_wp2
  go_ret
  exact ⟨rfl, rfl⟩

set_option maxRecDepth 100000 in
set_option maxHeartbeats 400000 in
theorem clone_none (w : World) (x : Addr) (c : Nat) : Calls Try.prog 13 #[.slice (some x) 0 c] w fun e w' => ∃ v, e = .returned v ∧ Cloned w w' v [] := by
  have hq := eql_nil w
  obtain ⟨i0, hi, hz0, hz1, hz2⟩ := info_parts info5
  have HI : Hid (Try.prog.info? 5 = some i0 ∧ i0.zero = some (.int .u8 0) ∧ i0.size = 1 ∧ i0.bytes = 1) := ⟨hi, hz0, hz1, hz2⟩
  clear hi hz0 hz1 hz2
  go_enter Try.func13, Try.ntmps13
  go_wp2_with (at_make; refine wpList_make_full _ rfl _ _ 29 rfl w.heap.size 5 i0 (.int .u8 0) 1 Try.underlying29 HI.out.1 HI.out.2.1 HI.out.2.2.1 _ _ _ _ 0 rfl rfl rfl rfl (by omega) (by unfold maxLen; omega) (Nat.le_refl _) ?_; intro w1 hown hgrow)
  refine wp_loop_rounds 1 ?_
  rw [rounds_succ]
  go_wp2
  go_ret
  exact ⟨_, rfl, by simpa [madeCells, Owns] using hown, (Kept.of_grown hgrow).mono (fun _ _ e => by cases e)⟩

set_option maxRecDepth 100000 in
set_option maxHeartbeats 1000000 in
theorem clone_row (w : World) (X : List Nat) (hn : X.length ≤ 524288) (b off c : Nat) (hc : ∀ i, i < X.length → w.cell? ⟨b, off + i, none⟩ = some (bv (X.getD i 0))) :
    Calls Try.prog 13 #[.slice (some ⟨b, off, none⟩) X.length c] w fun e w' => ∃ v, e = .returned v ∧ Cloned w w' v X := by
  have hq := eql_nil w
  obtain ⟨i0, hi, hz0, hz1, hz2⟩ := info_parts info5
  have HI : Hid (Try.prog.info? 5 = some i0 ∧ i0.zero = some (.int .u8 0) ∧ i0.size = 1 ∧ i0.bytes = 1) := ⟨hi, hz0, hz1, hz2⟩
  have HC : Hid (∀ i, i < X.length → w.cell? ⟨b, off + i, none⟩ = some (bv (X.getD i 0))) := hc
  clear hi hz0 hz1 hz2 hc
  go_enter Try.func13, Try.ntmps13
  go_wp2_with (at_make; refine wpList_make_full _ rfl _ _ 29 rfl w.heap.size 5 i0 (.int .u8 0) 1 Try.underlying29 HI.out.1 HI.out.2.1 HI.out.2.2.1 _ _ _ _ X.length rfl rfl rfl rfl (by rw [HI.out.2.2.2]; omega) (by unfold maxLen; omega) (Nat.le_refl _) ?_; intro w1 hown hgrow)
  have HO : Hid (w1.ownsRow w.heap.size 5 1 (.slice (some ⟨w.heap.size, 0, none⟩) X.length X.length) X.length (rowAt X 0)) := by
    rw [rowAt_zero]
    have h := hown
    simp [Value.cells, toList_madeCells_one] at h
    exact h
  have HK : Hid (Kept (fun _ => False) w w1) := (Kept.of_grown hgrow).mono (fun _ _ e => by cases e)
  clear hown hgrow hq
  go_loopw [4] (fun i wr => ∃ k : Nat, k ≤ X.length ∧ i = .int .i64 k ∧ Hid (wr.ownsRow w.heap.size 5 1 (.slice (some ⟨w.heap.size, 0, none⟩) X.length X.length) X.length (rowAt X k)) ∧ Hid (Kept (fun _ => False) w wr)) (fun i _ => X.length - (intOf i).toNat)
  case atStart => exact ⟨0, Nat.zero_le _, rfl, HO, HK⟩
  case round =>
    obtain ⟨k, hk, rfl, HO', HK'⟩ := hrel
    by_cases hlt : k < X.length
    · have c1 := HK'.out.cell (HC.out k hlt) (fun h => h)
      have c2 : wr.cell? ⟨w.heap.size, k, none⟩ = some (.int .u8 0) := by rw [HO'.out.cellAt k (by omega), rowAt_get X k hlt]; rfl
      have f2 := HO'.out.frozenAt k
      have hst := HO'.out.stored k (bv (X.getD k 0))
      rw [rowAt_set X k hlt] at hst
      have HS : Hid ((wr.setCell ⟨w.heap.size, k, none⟩ (bv (X.getD k 0))).ownsRow w.heap.size 5 1 (.slice (some ⟨w.heap.size, 0, none⟩) X.length X.length) X.length (rowAt X (k + 1)) ∧ wr.grownBy (wr.setCell ⟨w.heap.size, k, none⟩ (bv (X.getD k 0))) (some w.heap.size)) := hst
      clear hst
      generalize X.getD k 0 = s at c1 HS
      unfold bv at c1 HS
      go_wp2
      go_roundw
      case rel =>
        refine ⟨k + 1, by omega, by go_num, HS.out.1, ?_⟩
        exact ((HK'.out.trans (Kept.of_grown HS.out.2)).mono (fun j hj e => by
          rcases e with e | e
          · exact e
          · simp at e; omega))
      case measure => simp [intOf]; omega
    · obtain rfl : k = X.length := by omega
      go_wp2
      go_ret
      exact ⟨_, rfl, by unfold Owns; rw [← rowAt_end]; exact HO'.out, HK'.out⟩

theorem clone_calls (w : World) (X : List Nat) (hn : X.length ≤ 524288) (v : Value) (hv : IsBytes w v X) :
    Calls Try.prog 13 #[v] w fun e w' => ∃ v', e = .returned v' ∧ Cloned w w' v' X := by
  rcases hv with ⟨rfl, a, c, rfl⟩ | ⟨b, off, c, rfl, hc⟩
  · cases a with
    | none => exact (clone_nil w c).mono fun e w' ⟨he, hw⟩ => ⟨_, he, by subst hw; exact ⟨Owns_nil _ _, Kept.refl _ _⟩⟩
    | some x => exact clone_none w x c
  · exact clone_row w X hn b off c hc

end Go.Proofs.Qxb6618497a.Ax
