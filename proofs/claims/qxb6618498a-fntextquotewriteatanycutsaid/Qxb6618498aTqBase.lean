/-
  SEAT b6618498a: THE WORDS OF THE WALKS: slices of bytes, read and owned; what a call has left as it was; 'make' and 'copy'.
-/
import Derived.Test.Qxb6618498aRows
import Derived.WalkKit
import Derived.WalkSpells
import Derived.LoopTactic
import Derived.Deep.QuietTactic
import Derived.BigQuiet
import Derived.Below
import Derived.Maps.AppendAt
import Derived.Laws.CopyOwn
import Derived.Laws.IdiomCopy
namespace Go.Proofs.Qxb6618498a.Tq
open Go.RowKit

/-! ### what has been left as it was -/
/-- All blocks that were there, but those of S, are as they were; the streams are as they were. -/
structure Kept (S : Nat → Prop) (w w' : World) : Prop where
  os : w'.os = w.os
  tape : w'.tape = w.tape
  output : w'.output = w.output
  size : w.heap.size ≤ w'.heap.size
  block : ∀ k, k < w.heap.size → ¬ S k → w'.heap[k]? = w.heap[k]?

theorem Kept.refl (S : Nat → Prop) (w : World) : Kept S w w := ⟨rfl, rfl, rfl, Nat.le_refl _, fun _ _ _ => rfl⟩

theorem Kept.trans {S T : Nat → Prop} {a b c : World} (h : Kept S a b) (k : Kept T b c) : Kept (fun x => S x ∨ T x) a c :=
  ⟨k.os.trans h.os, k.tape.trans h.tape, k.output.trans h.output, Nat.le_trans h.size k.size, fun i hi hn =>
    (k.block i (Nat.lt_of_lt_of_le hi h.size) (fun e => hn (.inr e))).trans (h.block i hi (fun e => hn (.inl e)))⟩

theorem Kept.mono {S T : Nat → Prop} {w w' : World} (h : Kept S w w') (hST : ∀ k, k < w.heap.size → S k → T k) : Kept T w w' :=
  ⟨h.os, h.tape, h.output, h.size, fun k hk hn => h.block k hk (fun e => hn (hST k hk e))⟩

theorem Kept.alloc (S : Nat → Prop) (w : World) (o : Obj) : Kept S w (w.alloc o) :=
  ⟨rfl, rfl, rfl, by simp, fun k hk _ => Below.heap_alloc w o k hk⟩

theorem Kept.setRow {S : Nat → Prop} (w : World) {g : Nat} (h : S g) (cs : Array Value) : Kept S w (w.setRow g cs) :=
  ⟨rfl, rfl, rfl, by simp [World.setRow], fun k _ hn => setRow_other w g k cs (fun e => hn (e ▸ h))⟩

theorem Kept.drewN (S : Nat → Prop) (w : World) (n : Nat) : Kept S w (w.drewN n) := ⟨rfl, rfl, rfl, Nat.le_refl _, fun _ _ _ => rfl⟩

theorem Kept.of_grown {w w' : World} {row : Option Nat} (h : w.grownBy w' row) : Kept (fun k => some k = row) w w' :=
  ⟨h.os, h.tape, h.output, h.size, fun k hk hn => h.block k hk hn⟩

theorem Kept.below {S : Nat → Prop} {w w' : World} {B : Nat} (h : Kept S w w') (hB : B ≤ w.heap.size) (hS : ∀ k, S k → B ≤ k) : Below B w w' :=
  ⟨h.os, h.tape, h.output, h.size, fun k hk => h.block k (by omega) (fun e => by have := hS k e; omega)⟩

theorem Kept.cell {S : Nat → Prop} {w w' : World} (h : Kept S w w') {a : Addr} {v : Value} (hc : w.cell? a = some v) (hn : ¬ S a.block) : w'.cell? a = some v :=
  (World.cell?_of_block (h.block a.block (World.block_lt_of_cell? w a hc) hn)).trans hc

/-! ### slices of bytes -/
/-- The value of a byte. -/
def bv (x : Nat) : Value := .int .u8 (x : Int)
theorem bv_one (X : List Nat) : ∀ u ∈ X.map bv, u.oneCell' = true := by
  intro u hu
  obtain ⟨x, _, rfl⟩ := List.mem_map.1 hu
  rfl

/-- The slice v holds the bytes X. -/
def IsBytes (w : World) (v : Value) (X : List Nat) : Prop :=
  (X = [] ∧ ∃ a c, v = .slice a 0 c) ∨
  ∃ b off c, v = .slice (some ⟨b, off, none⟩) X.length c ∧ ∀ i, i < X.length → w.cell? ⟨b, off + i, none⟩ = some (bv (X.getD i 0))

theorem IsBytes.kept {w w' : World} {v : Value} {X : List Nat} {S : Nat → Prop} (h : IsBytes w v X) (hk : Kept S w w') (hn : ∀ k, v.ownBlock = some k → ¬ S k) : IsBytes w' v X := by
  rcases h with h | ⟨b, off, c, rfl, hc⟩
  · exact .inl h
  · exact .inr ⟨b, off, c, rfl, fun i hi => hk.cell (hc i hi) (hn b rfl)⟩

theorem IsBytes.shape {w : World} {v : Value} {X : List Nat} (h : IsBytes w v X) : ∃ a c, v = .slice a X.length c := by
  rcases h with ⟨rfl, a, c, rfl⟩ | ⟨b, off, c, rfl, _⟩
  · exact ⟨a, c, rfl⟩
  · exact ⟨_, c, rfl⟩

/-- The slice v, of the call's own memory from block 'base' on, holds the bytes X. -/
def Owns (w : World) (base : Nat) (v : Value) (X : List Nat) : Prop := w.ownsRow base 5 1 v X.length (X.map bv)

theorem Owns.isBytes {w : World} {base : Nat} {v : Value} {X : List Nat} (h : Owns w base v X) : IsBytes w v X := by
  unfold Owns at h
  rcases h.2 with ⟨rfl, hn⟩ | ⟨g, cap, cur, rfl, hb, hg, hnc, hcm, hcs, htake⟩
  · exact .inl ⟨List.eq_nil_of_length_eq_zero hn, none, 0, rfl⟩
  · refine .inr ⟨g, 0, cap, rfl, fun i hi => ?_⟩
    rw [Nat.zero_add, h.cellAt i (by omega)]
    simp [List.getD_eq_getElem?_getD, List.getElem?_eq_getElem hi]

theorem Owns.kept {w w' : World} {S : Nat → Prop} {base : Nat} {v : Value} {X : List Nat} (h : Owns w base v X) (hk : Kept S w w') (hn : ∀ k, v.ownBlock = some k → ¬ S k) : Owns w' base v X := by
  refine ⟨h.1, ?_⟩
  rcases h.2 with h0 | ⟨g, cap, cur, rfl, hb, hgg, rest⟩
  · exact .inl h0
  · exact .inr ⟨g, cap, cur, rfl, hb, (hk.block g (Array.getElem?_eq_some_iff.1 hgg).1 (hn g rfl)).trans hgg, rest⟩

theorem Owns.mono {w : World} {base base' : Nat} {v : Value} {X : List Nat} (h : Owns w base v X) (hb : base' ≤ base) : Owns w base' v X := by
  refine ⟨h.1, ?_⟩
  rcases h.2 with h0 | ⟨g, cap, cur, rfl, hbg, rest⟩
  · exact .inl h0
  · exact .inr ⟨g, cap, cur, rfl, by omega, rest⟩

theorem Owns.lt {w : World} {base : Nat} {v : Value} {X : List Nat} (h : Owns w base v X) : ∀ k, v.ownBlock = some k → base ≤ k ∧ k < w.heap.size := World.ownsRow.lt h

theorem Owns_nil (w : World) (base : Nat) : Owns w base (.slice none 0 0) [] := World.ownsRow_nil _ _ _ _

theorem info5 : (Try.prog.info? 5).map (fun i => (i.zero, i.size, i.bytes)) = some (some (.int .u8 0), 1, 1) := by kernel_rfl
theorem size5 : (Try.prog.info? 5).map (·.size) = some 1 := by kernel_rfl

theorem eql_nil (w : World) (a : Option Addr) (n c : Nat) : (binOp .eql 22 (.slice a n c) (.slice none 0 0)).run Try.prog w = .ok (.bool a.isNone) w :=
  Lib.run_eql_slice_nil w 22 5 a n c 0 0 Try.underlying22
theorem neq_nil (w : World) (a : Option Addr) (n c : Nat) : (binOp .neq 22 (.slice a n c) (.slice none 0 0)).run Try.prog w = .ok (.bool !a.isNone) w :=
  run_neq_slice_nil_any w 22 5 a n c 0 0 Try.underlying22

/-- The copy at its operation, for the walk. -/
theorem wp_copy {w : World} {ops : Array Oper} {rest : List Oper} {o : Oper} {a : Act} {Q : Exit → Act → World → Prop} (hgd : o.guard = none) (s x : Operand)
    (ho : o.op = .call { callee := .builtin .copy, args := #[s, x], argTypes := #[22, 22] }) (v u v' : Value) (w' : World) (hs : a.eval s = v) (hx : a.eval x = u)
    (hr : ∀ ty, (Builtin.copy_ #[22, 22] ty #[v, u]).run Try.prog w = .ok v' w') (h : wpList Try.prog ops Q rest (a.put o.dst v') w') :
    wpList Try.prog ops Q (o :: rest) a w := by
  refine wpList_plain hgd fun K hK => ?_
  unfold Oper.wp execOp
  simp only [ho, resolve, invoke, builtin, Sem.run_bind, Sem.run_pure, Result.andThen_ok, List.map_toArray, List.map_cons, List.map_nil, hs, hx, hr]
  exact hK _ _ h

/-- 'c := make([]byte, n); copy(c, x)', n the length of x: the new row holds x's bytes. -/
theorem run_copy_made (w : World) (base : Nat) (g : Nat) (xs : List Value) (u : Value) (X : List Nat)
    (hown : w.ownsRow base 5 1 (.slice (some ⟨g, 0, none⟩) X.length X.length) X.length xs) (hu : IsBytes w u X) :
    ∃ w', (∀ ty, (Builtin.copy_ #[22, 22] ty #[.slice (some ⟨g, 0, none⟩) X.length X.length, u]).run Try.prog w = .ok (goInt X.length) w') ∧ Owns w' base (.slice (some ⟨g, 0, none⟩) X.length X.length) X ∧ Kept (fun k => k = g) w w' := by
  rcases hown.2 with ⟨h, _⟩ | ⟨g', cap', cur, h, hb, hg, hnc, hcm, hcs, htake⟩
  · simp at h
  simp only [Value.slice.injEq, Option.some.injEq, Addr.mk.injEq, and_true, true_and] at h
  obtain ⟨rfl, rfl⟩ := h
  rcases hu with ⟨rfl, a, c, rfl⟩ | ⟨b, off, c, rfl, hc⟩
  · refine ⟨w, fun ty => run_copy_none w 22 22 ty 5 _ a _ _ _ c Try.underlying22 size5 (by simp), ⟨by simp, .inr ⟨g, 0, cur, rfl, hb, hg, Nat.le_refl _, hcm, hcs, by simp⟩⟩, Kept.refl _ _⟩
  · have hl : (X.map bv).length = Nat.min X.length X.length := by simp
    have hsrc : ∀ j v, (X.map bv)[j]? = some v → w.cell? ((⟨b, off, none⟩ : Addr).add j) = some v := fun j v hj => by
      rw [List.getElem?_map] at hj
      cases hx : X[j]? with
      | none => rw [hx] at hj; cases hj
      | some x =>
        have hj' : j < X.length := (List.getElem?_eq_some_iff.1 hx).1
        rw [Go.WideShapes.add_plain, hc j hj']
        rw [hx] at hj
        simpa [List.getD_eq_getElem?_getD, hx] using hj
    have hfit : 0 + (X.map bv).length ≤ cur.size := by simp; omega
    refine ⟨w.setRow g (cur.toList.take 0 ++ X.map bv ++ cur.toList.drop (0 + (X.map bv).length)).toArray, fun ty => ?_, ?_, Kept.setRow (S := fun k => k = g) w rfl _⟩
    · have := run_copy_row (P := Try.prog) w 22 22 ty 5 g 0 X.length X.length ⟨b, off, none⟩ X.length c cur 5 (X.map bv) Try.underlying22 size5 hg hl hsrc hfit (bv_one X)
      rw [this]
      simp
    · refine ⟨by simp, .inr ⟨g, X.length, _, rfl, hb, setRow_heap w g cur _ 5 _ hg, Nat.le_refl _, hcm, ?_, ?_⟩⟩
      · simp; omega
      · simp

end Go.Proofs.Qxb6618498a.Tq
