/-
  SEAT b6618497a: the model's entry for subtle.xorBytes (23).
-/
import Derived.Test.Qxb6618497aAxXor
namespace Go.Proofs.Qxb6618497a.Ax
open Go.RowKit

/-- The bytes of X, those that have a fellow in Y turned to the exclusive or. -/
def xr (X Y : List Nat) : List Nat := List.zipWith (· ^^^ ·) X Y ++ X.drop Y.length

theorem xr_length (X Y : List Nat) : (xr X Y).length = X.length := by
  simp [xr]; omega

theorem xr_lt (X Y : List Nat) (i : Nat) (hx : i < X.length) (hy : i < Y.length) : (xr X Y).getD i 0 = X.getD i 0 ^^^ Y.getD i 0 := by
  unfold xr
  simp only [List.getD_eq_getElem?_getD]
  rw [List.getElem?_append_left (by simp; omega), List.getElem?_zipWith, List.getElem?_eq_getElem hx, List.getElem?_eq_getElem hy]
  rfl

theorem xr_ge (X Y : List Nat) (i : Nat) (hx : i < X.length) (hy : Y.length ≤ i) : (xr X Y).getD i 0 = X.getD i 0 := by
  unfold xr
  simp only [List.getD_eq_getElem?_getD]
  have hl : (List.zipWith (· ^^^ ·) X Y).length = Y.length := by simp; omega
  rw [List.getElem?_append_right (by omega), hl, List.getElem?_drop]
  congr 3
  omega

/-- One byte's step of the entry. -/
def xstep : Value × Value → Sem Value := fun (x, y) => do pure (Value.int .u8 (Int.ofNat ((← asInt x).toNat ^^^ (← asInt y).toNat)))
theorem run_xstep (w : World) (x y : Nat) : (xstep (bv x, bv y)).run Try.prog w = .ok (bv (x ^^^ y)) w := rfl

theorem run_xors (w : World) : ∀ l : List (Nat × Nat), ((l.map fun p : Nat × Nat => (bv p.1, bv p.2)).mapM xstep).run Try.prog w = .ok (l.map fun p : Nat × Nat => bv (p.1 ^^^ p.2)) w
  | [] => rfl
  | (x, y) :: r => by
    have ih := run_xors w r
    rw [List.map_cons, List.mapM_cons, Sem.run_bind, run_xstep, Result.andThen_ok, Sem.run_bind, ih, Result.andThen_ok]
    rfl

/-- 'subtle.xorBytes(&d[0], &d[0], &s[0], n)', d and s rows of the call's own. -/
theorem run_entry (w : World) (g h : Nat) (X Y : List Nat) (hl : X.length = Y.length) (cur : Array Value) (hg : w.heap[g]? = some (.cells cur 5 (0, 0))) (hfit : X.length ≤ cur.size)
    (hx : ∀ j v, (X.map bv)[j]? = some v → w.cell? ((⟨g, 0, none⟩ : Addr).add j) = some v) (hy : ∀ j v, (Y.map bv)[j]? = some v → w.cell? ((⟨h, 0, none⟩ : Addr).add j) = some v) :
    (Extern.CryptoHooks.xorBytes #[.pointer (some ⟨g, 0, none⟩), .pointer (some ⟨g, 0, none⟩), .pointer (some ⟨h, 0, none⟩), .int .i64 (X.length : Int)]).run Try.prog w =
      .ok (.tuple #[]) (w.setRow g ((List.zipWith (· ^^^ ·) X Y).map bv ++ cur.toList.drop X.length).toArray) := by
  have l1 := run_loadCells_list (P := Try.prog) w ⟨g, 0, none⟩ (X.map bv) hx
  have l2 := run_loadCells_list (P := Try.prog) w ⟨h, 0, none⟩ (Y.map bv) hy
  rw [List.length_map] at l1 l2
  rw [← hl] at l2
  have hz : (X.map bv).zip (Y.map bv) = (X.zip Y).map fun p : Nat × Nat => (bv p.1, bv p.2) := by
    rw [List.zip_map]
    rfl
  have ho : (X.zip Y).map (fun p : Nat × Nat => bv (p.1 ^^^ p.2)) = (List.zipWith (· ^^^ ·) X Y).map bv := by
    rw [List.zip, List.map_zipWith, List.map_zipWith]
  have hm := run_xors w (X.zip Y)
  rw [ho, ← hz] at hm
  have hst := run_storeCells_at Try.prog g 0 5 ((List.zipWith (· ^^^ ·) X Y).map bv) 0 cur w hg (by simp; omega) (bv_one _)
  change Sem.run Try.prog (α := Value) (do
    let n := (← asInt (.int .i64 (X.length : Int))).toNat
    let xs ← loadCells (← asAddr (.pointer (some ⟨g, 0, none⟩))) n
    let ys ← loadCells (← asAddr (.pointer (some ⟨h, 0, none⟩))) n
    let out ← (xs.zip ys).mapM xstep
    storeCells (← asAddr (.pointer (some ⟨g, 0, none⟩))) out.toList
    pure (.tuple #[])) w = _
  have e1 : (asInt (.int .i64 (X.length : Int))).run Try.prog w = .ok (X.length : Int) w := rfl
  have e2 : ∀ a : Addr, ∀ w, (asAddr (.pointer (some a))).run Try.prog w = .ok a w := fun _ _ => rfl
  simp only [Sem.run_bind, e1, e2, Result.andThen_ok, Int.toNat_natCast, l1, l2, List.zip_toArray, Array.mapM_eq_mapM_toList, Sem.run_map, hm]
  have hlz : ((List.zipWith (· ^^^ ·) X Y).map bv).length = X.length := by simp; omega
  rw [hst, hlz]
  simp only [Nat.add_zero, Nat.zero_add, List.take_zero, List.nil_append, Result.andThen_ok]
  rfl

theorem zip_take (X Y : List Nat) : List.zipWith (· ^^^ ·) (X.take (min X.length Y.length)) (Y.take (min X.length Y.length)) = List.zipWith (· ^^^ ·) X Y := by
  rw [← List.take_zipWith]
  exact List.take_of_length_le (by simp)

theorem cells_get {w : World} {base : Nat} {g c : Nat} {X : List Nat} (h : Owns w base (.slice (some ⟨g, 0, none⟩) X.length c) X) (n : Nat) : ∀ j v, ((X.take n).map bv)[j]? = some v → w.cell? ((⟨g, 0, none⟩ : Addr).add j) = some v := by
  intro j v hj
  refine World.ownsRow.cells (v := .slice (some ⟨g, 0, none⟩) X.length c) h (g := g) rfl j v ?_
  rw [List.map_take] at hj
  rw [List.getElem?_take] at hj
  split at hj
  · exact hj
  · cases hj

/-- 'subtle.xorBytes' at two rows of the call's own. -/
theorem run_xor (w : World) (base g h c c' : Nat) (X Y : List Nat) (hX : Owns w base (.slice (some ⟨g, 0, none⟩) X.length c) X) (hY : Owns w base (.slice (some ⟨h, 0, none⟩) Y.length c') Y) :
    ∃ w', (callFunc 23 #[.pointer (some ⟨g, 0, none⟩), .pointer (some ⟨g, 0, none⟩), .pointer (some ⟨h, 0, none⟩), .int .i64 ((min X.length Y.length : Nat) : Int)]).run Try.prog w = .ok (.value (.tuple #[])) w' ∧
      Owns w' base (.slice (some ⟨g, 0, none⟩) X.length c) (xr X Y) ∧ Kept (fun k => k = g) w w' := by
  have hgx := cells_get hX (min X.length Y.length)
  have hgy := cells_get hY (min X.length Y.length)
  rcases hX.2 with ⟨h0, _⟩ | ⟨g', cap, cur, h0, hb, hg, hnc, hcm, hcs, htake⟩
  · simp at h0
  simp only [Value.slice.injEq, Option.some.injEq, Addr.mk.injEq, and_true, true_and] at h0
  obtain ⟨rfl, rfl⟩ := h0
  have hlx : (X.take (min X.length Y.length)).length = min X.length Y.length := by rw [List.length_take]; omega
  have hly : (Y.take (min X.length Y.length)).length = min X.length Y.length := by rw [List.length_take]; omega
  have he := run_entry w g h (X.take (min X.length Y.length)) (Y.take (min X.length Y.length)) (by omega) cur hg (by omega) hgx hgy
  rw [hlx, zip_take] at he
  have hrow : ((List.zipWith (· ^^^ ·) X Y).map bv ++ cur.toList.drop (min X.length Y.length)).take X.length = (xr X Y).map bv := by
    rw [Nat.mul_one] at htake
    have hz : ((List.zipWith (· ^^^ ·) X Y).map bv).length = min X.length Y.length := by simp
    have hd : (X.map bv).drop (min X.length Y.length) = (cur.toList.drop (min X.length Y.length)).take (X.length - min X.length Y.length) := by
      rw [← htake, List.drop_take]
    rw [List.take_append, List.take_of_length_le (by omega), hz, ← hd]
    unfold xr
    rw [List.map_append, List.map_drop]
    congr 1
    by_cases hle : Y.length ≤ X.length
    · rw [Nat.min_eq_right hle]
    · rw [List.drop_of_length_le (by simp; omega), List.drop_of_length_le (by simp; omega)]
  refine ⟨w.setRow g ((List.zipWith (· ^^^ ·) X Y).map bv ++ cur.toList.drop (min X.length Y.length)).toArray, ?_, ⟨?_, .inr ⟨g, c, _, ?_, hb, setRow_heap w g cur _ 5 _ hg, by rw [xr_length]; exact hnc, hcm, ?_, ?_⟩⟩, Kept.setRow (S := fun k => k = g) w rfl _⟩
  · rw [run_callFunc_extern Try.func23 (by kernel_rfl) (by kernel_rfl) (by kernel_rfl) (e := Extern.CryptoHooks.xorBytes) (by kernel_rfl), he]
    rfl
  · simp
  · rw [xr_length]
  · simp; omega
  · rw [xr_length, Nat.mul_one]
    exact hrow

/-- .. with the row that is laid under one name, whatever has been drawn. -/
theorem run_xor_row (w : World) (base g h c c' : Nat) (X Y : List Nat) (hX : Owns w base (.slice (some ⟨g, 0, none⟩) X.length c) X) (hY : Owns w base (.slice (some ⟨h, 0, none⟩) Y.length c') Y) :
    ∃ row : Array Value, ∀ q, (callFunc 23 #[.pointer (some ⟨g, 0, none⟩), .pointer (some ⟨g, 0, none⟩), .pointer (some ⟨h, 0, none⟩), .int .i64 ((min X.length Y.length : Nat) : Int)]).run Try.prog (w.drewN q) = .ok (.value (.tuple #[])) ((w.drewN q).setRow g row) ∧
      Owns ((w.drewN q).setRow g row) base (.slice (some ⟨g, 0, none⟩) X.length c) (xr X Y) := by
  rcases hX.2 with ⟨h0, _⟩ | ⟨g', cap, cur, h0, hb, hg, hnc, hcm, hcs, htake⟩
  · simp at h0
  simp only [Value.slice.injEq, Option.some.injEq, Addr.mk.injEq, and_true, true_and] at h0
  obtain ⟨rfl, rfl⟩ := h0
  refine ⟨((List.zipWith (· ^^^ ·) X Y).map bv ++ cur.toList.drop (min X.length Y.length)).toArray, fun q => ?_⟩
  have hXq : Owns (w.drewN q) base (.slice (some ⟨g, 0, none⟩) X.length c) X := hX
  have hYq : Owns (w.drewN q) base (.slice (some ⟨h, 0, none⟩) Y.length c') Y := hY
  obtain ⟨w', h1, h2, _⟩ := run_xor (w.drewN q) base g h c c' X Y hXq hYq
  have hlx : (X.take (min X.length Y.length)).length = min X.length Y.length := by rw [List.length_take]; omega
  have hly : (Y.take (min X.length Y.length)).length = min X.length Y.length := by rw [List.length_take]; omega
  have he := run_entry (w.drewN q) g h (X.take (min X.length Y.length)) (Y.take (min X.length Y.length)) (by omega) cur hg (by omega) (cells_get hXq _) (cells_get hYq _)
  rw [hlx, zip_take] at he
  have h3 : (callFunc 23 #[.pointer (some ⟨g, 0, none⟩), .pointer (some ⟨g, 0, none⟩), .pointer (some ⟨h, 0, none⟩), .int .i64 ((min X.length Y.length : Nat) : Int)]).run Try.prog (w.drewN q) = .ok (.value (.tuple #[])) ((w.drewN q).setRow g ((List.zipWith (· ^^^ ·) X Y).map bv ++ cur.toList.drop (min X.length Y.length)).toArray) := by
    rw [run_callFunc_extern Try.func23 (by kernel_rfl) (by kernel_rfl) (by kernel_rfl) (e := Extern.CryptoHooks.xorBytes) (by kernel_rfl), he]
    rfl
  refine ⟨h3, ?_⟩
  rw [h1] at h3
  injection h3 with _ e
  rw [← e]
  exact h2

end Go.Proofs.Qxb6618497a.Ax
