/-
  SEAT b6618487a: fillChildren (12).
-/
import Derived.Test.Qxb6618487aDcClone
namespace Go.Proofs.Qxb6618487a.Dc
open Go.RowKit Go.Maps

theorem newChildren_calls (w : World) : Calls Try.prog 32 #[] w fun e w' => e = .returned (.map (some w.heap.size)) ∧ w.alloc (.map #[] 0) = w' := by
  have hmm := @run_makeMap Try.prog
  go_enter Try.func32, Try.ntmps32
  go_wp2
  go_ret
  exact ⟨rfl, rfl⟩

/-- A node with nothing but its name. -/
def bare (s : ByteArray) : Obj := .cells #[.string s, .slice none 0 0, .map none, .bool false, .bool false] 62

theorem newContent_calls (s : ByteArray) (w : World) : Calls Try.prog 33 #[.string s] w fun e w' => e = .returned (.pointer (some ⟨w.heap.size, 0, none⟩)) ∧ w.alloc (bare s) = w' := by
  go_enter Try.func33, Try.ntmps33
  go_wp2
  go_ret
  exact ⟨rfl, rfl⟩

/-- What 'fillChildren' leaves after k keys: two maps of one content, in blocks B and B + 1. -/
structure Fill (w wr : World) (B : Nat) (ss : List ByteArray) (k : Nat) (f : ByteArray → Option Nat) (sz : Nat) : Prop where
  m : IsM wr B f sz
  keep : IsM wr (B + 1) f sz
  there : ∀ j, j < k → (f (ss.getD j ByteArray.empty)).isSome = true
  size : sz ≤ k
  old : Kept (fun _ => False) w wr

theorem Fill.step {w wr w1 w2 : World} {B k c : Nat} {ss : List ByteArray} {f : ByteArray → Option Nat} {sz : Nat} {o : Obj} (h : Fill w wr B ss k f sz) (hB : B = w.heap.size)
    (h1 : IsM w1 B (upd f (ss.getD k ByteArray.empty) c) (grow f (ss.getD k ByteArray.empty) sz)) (k1 : Kept (fun x => x = B) (wr.alloc o) w1)
    (h2 : IsM w2 (B + 1) (upd f (ss.getD k ByteArray.empty) c) (grow f (ss.getD k ByteArray.empty) sz)) (k2 : Kept (fun x => x = B + 1) w1 w2) :
    Fill w w2 B ss (k + 1) (upd f (ss.getD k ByteArray.empty) c) (grow f (ss.getD k ByteArray.empty) sz) := by
  refine ⟨h1.kept k2 (by omega), h2, fun j hj => ?_, ?_, ?_⟩
  · by_cases e : ss.getD j ByteArray.empty = ss.getD k ByteArray.empty
    · rw [e, upd_same]; rfl
    · rw [upd_other _ _ e]
      have : j ≠ k := fun h => e (by rw [h])
      exact h.there j (by omega)
  · unfold grow
    have := h.size
    split <;> omega
  · exact (((h.old.trans (Kept.alloc (fun _ => False) wr o)).trans (k1.trans k2))).mono (fun x hx e => by
      rcases e with (e | e) | (e | e)
      · exact e
      · exact e
      · omega
      · omega)

set_option maxRecDepth 100000 in
set_option maxHeartbeats 1000000 in
theorem fill_row (w : World) (ss : List ByteArray) (hn : ss.length ≤ 65536) (hsz : ∀ i, i < ss.length → (ss.getD i ByteArray.empty).size ≤ maxLen) (b off c : Nat) (hc : ∀ i, i < ss.length → w.cell? ⟨b, off + i, none⟩ = some (.string (ss.getD i ByteArray.empty))) :
    Calls Try.prog 12 #[.slice (some ⟨b, off, none⟩) ss.length c] w fun e w' => e = .returned (.tuple #[.map (some w.heap.size), .map (some (w.heap.size + 1))]) ∧ ∃ f sz, Fill w w' w.heap.size ss ss.length f sz := by
  have HC : Hid (∀ i, i < ss.length → w.cell? ⟨b, off + i, none⟩ = some (.string (ss.getD i ByteArray.empty))) := hc
  have HZ : Hid (∀ i, i < ss.length → (ss.getD i ByteArray.empty).size ≤ maxLen) := hsz
  clear hc hsz
  have hmm := @run_makeMap Try.prog
  go_enter Try.func12, Try.ntmps12
  go_wp2_with fail
  refine (newChildren_calls _).mono ?_
  rintro e w1 ⟨rfl, rfl⟩
  go_wp2_with fail
  clear hmm
  have HS : Hid (Fill w ((w.alloc (.map #[] 0)).alloc (.map #[] 0)) w.heap.size ss 0 (fun _ => none) 0) := by
    refine ⟨(IsM_made w).kept (Kept.alloc (fun _ => False) _ _) (fun h => h), ?_, fun j hj => absurd hj (Nat.not_lt_zero _), Nat.le_refl _, ?_⟩
    · have := IsM_made (w.alloc (.map #[] 0))
      simpa using this
    · exact ((Kept.alloc (fun _ => False) w _).trans (Kept.alloc (fun _ => False) _ _)).mono (fun _ _ e => by rcases e with e | e <;> exact e)
  go_loopw [6] (fun i wr => ∃ k : Nat, k ≤ ss.length ∧ i = .int .i64 k ∧ Hid (∃ f sz, Fill w wr w.heap.size ss k f sz)) (fun i _ => ss.length - (intOf i).toNat)
  case atStart => exact ⟨0, Nat.zero_le _, rfl, _, _, HS.out⟩
  case round =>
    clear HS
    obtain ⟨k, hk, rfl, HF⟩ := hrel
    by_cases hlt : k < ss.length
    · obtain ⟨f, sz, hF⟩ := HF.out
      have HF1 : Hid (Fill w wr w.heap.size ss k f sz) := hF
      clear hF HF
      have hz := HZ.out k hlt
      have hs1 : Hid (∃ s, s = ss.getD k ByteArray.empty) := ⟨_, rfl⟩
      obtain ⟨s, hs⟩ := hs1.out
      have HE : Hid (s = ss.getD k ByteArray.empty) := hs
      have c1 : wr.cell? ⟨b, off + k, none⟩ = some (.string s) := by rw [hs]; exact HF1.out.old.cell (HC.out k hlt) (fun h => h)
      rw [← hs] at hz
      clear hs hs1
      have c2 := (Kept.alloc (fun _ => False) wr (bare s)).cell c1 (fun h => h)
      have hsl : sz < maxLen := by have := HF1.out.size; unfold maxLen; omega
      obtain ⟨w1, r1, M1, K1⟩ := (HF1.out.m.kept (Kept.alloc (fun _ => False) wr (bare s)) (fun h => h)).update hsl hz wr.heap.size
      obtain ⟨w2, r2, M2, K2⟩ := ((HF1.out.keep.kept (Kept.alloc (fun _ => False) wr (bare s)) (fun h => h)).kept K1 (by omega)).update hsl hz wr.heap.size
      have c3 := K1.cell c2 (fun (h : b = w.heap.size) => by
        have := World.block_lt_of_cell? w _ (HC.out k hlt)
        simp at this
        omega)
      have HR : Hid (∃ f sz, Fill w w2 w.heap.size ss (k + 1) f sz) := by
        have e := HE.out
        subst e
        exact ⟨_, _, HF1.out.step rfl M1 K1 M2 K2⟩
      clear M1 K1 M2 K2 hz hsl
      go_wp2_with (go_at_call 33; refine (newContent_calls _ _).mono ?_; rintro e w1 ⟨rfl, rfl⟩)
      go_roundw
      case rel => exact ⟨k + 1, by omega, by go_num, HR.out⟩
      case measure => simp [intOf]; omega
    · obtain rfl : k = ss.length := by omega
      go_wp2
      go_ret2
      exact ⟨rfl, HF.out⟩

set_option maxRecDepth 100000 in
theorem fill_nil (w : World) (a : Option Addr) (c : Nat) :
    Calls Try.prog 12 #[.slice a 0 c] w fun e w' => e = .returned (.tuple #[.map (some w.heap.size), .map (some (w.heap.size + 1))]) ∧ ∃ f sz, Fill w w' w.heap.size [] 0 f sz := by
  have hmm := @run_makeMap Try.prog
  go_enter Try.func12, Try.ntmps12
  go_wp2_with fail
  refine (newChildren_calls _).mono ?_
  rintro e w1 ⟨rfl, rfl⟩
  go_wp2_with fail
  clear hmm
  have HS : Hid (Fill w ((w.alloc (.map #[] 0)).alloc (.map #[] 0)) w.heap.size [] 0 (fun _ => none) 0) := by
    refine ⟨(IsM_made w).kept (Kept.alloc (fun _ => False) _ _) (fun h => h), ?_, fun j hj => absurd hj (Nat.not_lt_zero _), Nat.le_refl _, ?_⟩
    · have := IsM_made (w.alloc (.map #[] 0))
      simpa using this
    · exact ((Kept.alloc (fun _ => False) w _).trans (Kept.alloc (fun _ => False) _ _)).mono (fun _ _ e => by rcases e with e | e <;> exact e)
  refine wp_loop_rounds 1 ?_
  rw [rounds_succ]
  go_wp2
  go_ret2
  exact ⟨rfl, _, _, HS.out⟩

theorem fill_calls (w : World) (ss : List ByteArray) (hn : ss.length ≤ 65536) (hs : ∀ s ∈ ss, s.size ≤ maxLen) (v : Value) (hv : IsStrs w v ss) :
    Calls Try.prog 12 #[v] w fun e w' => e = .returned (.tuple #[.map (some w.heap.size), .map (some (w.heap.size + 1))]) ∧ ∃ f sz, Fill w w' w.heap.size ss ss.length f sz := by
  rcases hv with ⟨rfl, a, c, rfl⟩ | ⟨b, off, c, rfl, hc⟩
  · exact fill_nil w a c
  · exact fill_row w ss hn (fun i hi => hs _ (getD_mem hi)) b off c hc

end Go.Proofs.Qxb6618487a.Dc
