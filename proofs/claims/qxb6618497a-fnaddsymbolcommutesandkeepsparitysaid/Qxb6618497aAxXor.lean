/-
  SEAT b6618497a: InexactOverlap (22), the model's two entries (23, 24), XORBytes (21, 20), addSymbol (18, 14).
-/
import Derived.Test.Qxb6618497aAxBase
import Derived.LaidEqlPtr
import Derived.Lib.Overlaps
import Derived.RegionTactic
import Derived.BigRegion
namespace Go.Proofs.Qxb6618497a.Ax
open Go.RowKit

theorem info5some : (Try.prog.info? 5).isSome = true := by kernel_rfl
theorem ptr_same (a : Addr) (w : World) : (binOp .eql 42 (.pointer (some a)) (.pointer (some a))).run Try.prog w = .ok (.bool true) w := by
  obtain ⟨j, hj⟩ := Option.isSome_iff_exists.1 info5some
  exact run_eql_ptr_same w a Try.underlying42 hj

theorem ptr_other {g h : Nat} {o o' : Nat} {ca cb : Array Value} {ta tb : TypeId} (w : World) (hne : g ≠ h) (ha : w.heap[g]? = some (.cells ca ta (0, 0))) (hb : w.heap[h]? = some (.cells cb tb (0, 0))) :
    (binOp .eql 42 (.pointer (some ⟨g, o, none⟩)) (.pointer (some ⟨h, o', none⟩))).run Try.prog w = .ok (.bool false) w := by
  obtain ⟨i0, hi, hz0, hz1, hz2⟩ := info_parts info5
  exact run_eql_ptr_other w Try.underlying42 hi (by rw [hz1]; decide) (fun e => hne (congrArg Addr.block e)) ha hb

set_option maxRecDepth 100000 in
set_option maxHeartbeats 1000000 in
theorem inexact_same (w : World) (g n c c' : Nat) (hn : 0 < n) :
    Calls Try.prog 22 #[.slice (some ⟨g, 0, none⟩) n c, .slice (some ⟨g, 0, none⟩) n c'] w fun e w' => e = .returned (.bool false) ∧ ∃ q, w' = w.drewN q := by
  have h0 : ((n : Int) == 0) = false := by simp; omega
  have hi : (0 : Int) < (n : Int) := by omega
  have hp := fun a q => ptr_same a (w.drewN q)
  have hp0 := fun a => ptr_same a w
  go_enter Try.func22, Try.ntmps22
  go_wp2
  go_quiet (fail)
  go_wp2
  go_ret
  exact ⟨rfl, _, rfl⟩

/-- 'alias.AnyOverlap' at two rows of the call's own: the model's entry. -/
theorem run_any (w : World) (g h n c n' c' : Nat) {ca cb : Array Value} (hne : g ≠ h) (ha : w.heap[g]? = some (.cells ca 5 (0, 0))) (hb : w.heap[h]? = some (.cells cb 5 (0, 0))) (hz : cb.size ≠ 0) :
    (callFunc 24 #[.slice (some ⟨g, 0, none⟩) n c, .slice (some ⟨h, 0, none⟩) n' c']).run Try.prog w = .ok (.value (.bool false)) w := by
  have hsz : ∀ w, (Go.sizeOf 5).run Try.prog w = .ok 1 w := fun w => by
    obtain ⟨i0, hi, hz0, hz1, hz2⟩ := info_parts info5
    simp [sizeOf, typeInfo, hi, hz1]
  rw [run_callFunc_extern Try.func24 (by kernel_rfl) (by kernel_rfl) (by kernel_rfl) (e := Extern.SlicesOverlaps.overlaps #[29, 29] #[4]) (by kernel_rfl),
    Lib.run_overlaps_apart w 29 4 5 Try.underlying29 1 hsz ⟨g, 0, none⟩ ⟨h, 0, none⟩ n c n' c' hne 5 5 ca.size cb.size (by simp [World.shape?, ha]) (by simp [World.shape?, hb]) hz (by simp [World.frozen?, ha]) (by simp [World.frozen?, ha])]
  rfl

set_option maxRecDepth 100000 in
set_option maxHeartbeats 1000000 in
theorem inexact_other (w : World) (g h n c c' : Nat) (hn : 0 < n) {ca cb : Array Value} (hne : g ≠ h) (ha : w.heap[g]? = some (.cells ca 5 (0, 0))) (hb : w.heap[h]? = some (.cells cb 5 (0, 0))) (hz : cb.size ≠ 0) :
    Calls Try.prog 22 #[.slice (some ⟨g, 0, none⟩) n c, .slice (some ⟨h, 0, none⟩) n c'] w fun e w' => e = .returned (.bool false) ∧ ∃ q, w' = w.drewN q := by
  have h0 : ((n : Int) == 0) = false := by simp; omega
  have hi : (0 : Int) < (n : Int) := by omega
  have hp := fun o o' q => ptr_other (o := o) (o' := o') (w.drewN q) hne ha hb
  have hp0 := fun o o' => ptr_other (o := o) (o' := o') w hne ha hb
  have hx := fun q => run_any (w.drewN q) g h n c n c' hne ha hb hz
  clear ha hb hz hne
  go_enter Try.func22, Try.ntmps22
  go_wp2
  go_quiet (fail)
  go_wp2
  go_ret
  exact ⟨rfl, _, rfl⟩

end Go.Proofs.Qxb6618497a.Ax
