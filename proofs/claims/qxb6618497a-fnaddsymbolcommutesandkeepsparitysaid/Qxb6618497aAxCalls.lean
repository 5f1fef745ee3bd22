/-
  SEAT b6618497a: XORBytes (21, 20), addSymbol (18, 14).
-/
import Derived.Test.Qxb6618497aAxEntry
namespace Go.Proofs.Qxb6618497a.Ax
open Go.RowKit

set_option maxRecDepth 100000 in
set_option maxHeartbeats 1000000 in
theorem xor21_core (w : World) (g h c c' nx ny n : Nat) (row : Array Value) (hn : (n = nx ∧ nx ≤ ny) ∨ (n = ny ∧ ny < nx)) (h0 : 0 < n) (hx : nx ≤ 524288) (hy : ny ≤ 524288) (hc : nx ≤ c) (hc' : ny ≤ c')
    (HQ : Hid (∀ q k ck, (k = g ∨ k = h) → Calls Try.prog 22 #[.slice (some ⟨g, 0, none⟩) n c, .slice (some ⟨k, 0, none⟩) n ck] (w.drewN q) fun e w' => e = .returned (.bool false) ∧ ∃ m, w' = (w.drewN q).drewN m))
    (hr : ∀ q, (callFunc 23 #[.pointer (some ⟨g, 0, none⟩), .pointer (some ⟨g, 0, none⟩), .pointer (some ⟨h, 0, none⟩), .int .i64 (n : Int)]).run Try.prog (w.drewN q) = .ok (.value (.tuple #[])) ((w.drewN q).setRow g row)) :
    Calls Try.prog 21 #[.slice (some ⟨g, 0, none⟩) nx c, .slice (some ⟨g, 0, none⟩) nx c, .slice (some ⟨h, 0, none⟩) ny c'] w fun e w' => ∃ r, e = .returned (.int .i64 r) ∧ ∃ q, w' = (w.drewN q).setRow g row := by
  rcases hn with ⟨rfl, hle⟩ | ⟨rfl, hlt⟩
  · have e0 : ((n : Int) == 0) = false := by simp; omega
    have i1 : (n : Int) ≤ (c : Int) := by omega
    have i2 : (n : Int) ≤ (c' : Int) := by omega
    have i3 : (0 : Int) < (n : Int) := by omega
    have i4 : (0 : Int) < (ny : Int) := by omega
    go_enter Try.func21, Try.ntmps21
    go_wp2
    go_quiet ((go_at_call 22; refine Calls.quiet_of (HQ.out _ _ _ ?_); first | exact .inl rfl | exact .inr rfl))
    go_wp2
    clear HQ
    go_region
    go_wp2
    go_ret
    exact ⟨_, rfl, _, rfl⟩
  · have e0 : ((n : Int) == 0) = false := by simp; omega
    have i1 : (n : Int) ≤ (c : Int) := by omega
    have i2 : (n : Int) ≤ (c' : Int) := by omega
    have i3 : (0 : Int) < (n : Int) := by omega
    have i4 : (0 : Int) < (nx : Int) := by omega
    go_enter Try.func21, Try.ntmps21
    go_wp2
    go_quiet ((go_at_call 22; refine Calls.quiet_of (HQ.out _ _ _ ?_); first | exact .inl rfl | exact .inr rfl))
    go_wp2
    clear HQ
    go_region
    go_wp2
    go_ret
    exact ⟨_, rfl, _, rfl⟩

theorem xor21 (w : World) (base g h c c' : Nat) (X Y : List Nat) (hX : Owns w base (.slice (some ⟨g, 0, none⟩) X.length c) X) (hY : Owns w base (.slice (some ⟨h, 0, none⟩) Y.length c') Y)
    (hne : g ≠ h) (h0 : 0 < min X.length Y.length) (hx : X.length ≤ 524288) (hy : Y.length ≤ 524288) :
    Calls Try.prog 21 #[.slice (some ⟨g, 0, none⟩) X.length c, .slice (some ⟨g, 0, none⟩) X.length c, .slice (some ⟨h, 0, none⟩) Y.length c'] w fun e w' => ∃ r, e = .returned (.int .i64 r) ∧
      Owns w' base (.slice (some ⟨g, 0, none⟩) X.length c) (xr X Y) ∧ Kept (fun k => k = g) w w' := by
  obtain ⟨row, hrow⟩ := run_xor_row w base g h c c' X Y hX hY
  obtain ⟨ca, ha, hca⟩ : ∃ ca, w.heap[g]? = some (.cells ca 5 (0, 0)) ∧ X.length ≤ c := by
    rcases hX.2 with ⟨e, _⟩ | ⟨g', cap, cur, e, hb, hg, hnc, hcm, hcs, htake⟩
    · simp at e
    · simp only [Value.slice.injEq, Option.some.injEq, Addr.mk.injEq, and_true, true_and] at e
      obtain ⟨rfl, rfl⟩ := e
      exact ⟨cur, hg, hnc⟩
  obtain ⟨cb, hb, hcb, hz⟩ : ∃ cb, w.heap[h]? = some (.cells cb 5 (0, 0)) ∧ Y.length ≤ c' ∧ cb.size ≠ 0 := by
    rcases hY.2 with ⟨e, _⟩ | ⟨g', cap, cur, e, hb, hg, hnc, hcm, hcs, htake⟩
    · simp at e
    · simp only [Value.slice.injEq, Option.some.injEq, Addr.mk.injEq, and_true, true_and] at e
      obtain ⟨rfl, rfl⟩ := e
      exact ⟨cur, hg, hnc, by omega⟩
  refine (xor21_core w g h c c' X.length Y.length (min X.length Y.length) row (by omega) h0 hx hy hca hcb ?_ (fun q => (hrow q).1)).mono ?_
  · intro q k ck hk
    rcases hk with rfl | rfl
    · exact inexact_same (w.drewN q) k (min X.length Y.length) c ck h0
    · exact inexact_other (w.drewN q) g k (min X.length Y.length) c ck h0 hne ha hb hz
  · rintro e w' ⟨r, rfl, q, rfl⟩
    exact ⟨r, rfl, (hrow q).2, ((Kept.drewN (fun _ => False) w q).trans (Kept.setRow (S := fun k => k = g) (w.drewN q) rfl row)).mono (fun k _ e => e.elim (fun h => h.elim) id)⟩

theorem xr_nil_right (X : List Nat) : xr X [] = X := by simp [xr]
theorem xr_nil_left (Y : List Nat) : xr [] Y = [] := by simp [xr]

set_option maxRecDepth 100000 in
theorem xor21_none (w : World) (a : Option Addr) (c : Nat) (b : Option Addr) (c' nx ny : Nat) (h0 : nx = 0 ∨ ny = 0) (hx : nx ≤ 524288) (hy : ny ≤ 524288) :
    Calls Try.prog 21 #[.slice a nx c, .slice a nx c, .slice b ny c'] w fun e w' => (∃ r, e = .returned (.int .i64 r)) ∧ w' = w := by
  rcases h0 with rfl | rfl
  · go_enter Try.func21, Try.ntmps21
    go_wp2
    all_goals
      go_ret
      exact ⟨⟨_, rfl⟩, rfl⟩
  · go_enter Try.func21, Try.ntmps21
    go_wp2
    all_goals
      go_ret
      exact ⟨⟨_, rfl⟩, rfl⟩

end Go.Proofs.Qxb6618497a.Ax
