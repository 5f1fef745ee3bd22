/-
  SEAT b6618487a: THE WORDS OF THE WALKS: a map[string]*content that reads as a plain function; a slice of strings; a content node; what a call has left as it was.
-/
import Derived.Test.Qxb6618487aRows
import Derived.WalkKit
import Derived.WalkSpells
import Derived.LoopTactic
import Derived.Deep.QuietTactic
import Derived.BigQuiet
import Derived.Below
import Derived.Maps.OwnSet
import Derived.Maps.AppendAt
namespace Go.Proofs.Qxb6618487a.Dc
open Go.RowKit Go.Maps

/-! ### what has been left as it was -/
/-- All blocks that were there, but those of S, are as they were; the streams are as they were. -/
structure Kept (S : Nat → Prop) (w w' : World) : Prop where
  os : w'.os = w.os
  tape : w'.tape = w.tape
  output : w'.output = w.output
  size : w.heap.size ≤ w'.heap.size
  block : ∀ k, k < w.heap.size → ¬ S k → w'.heap[k]? = w.heap[k]?

theorem Kept.refl (S : Nat → Prop) (w : World) : Kept S w w := ⟨rfl, rfl, rfl, Nat.le_refl _, fun _ _ _ => rfl⟩

theorem Kept.trans {S T : Nat → Prop} {a b c : World} (h : Kept S a b) (k : Kept T b c) : Kept (fun x => S x ∨ T x) a c :=
  ⟨k.os.trans h.os, k.tape.trans h.tape, k.output.trans h.output, Nat.le_trans h.size k.size, fun i hi hn =>
    (k.block i (Nat.lt_of_lt_of_le hi h.size) (fun e => hn (.inr e))).trans (h.block i hi (fun e => hn (.inl e)))⟩

theorem Kept.mono {S T : Nat → Prop} {w w' : World} (h : Kept S w w') (hST : ∀ k, k < w.heap.size → S k → T k) : Kept T w w' :=
  ⟨h.os, h.tape, h.output, h.size, fun k hk hn => h.block k hk (fun e => hn (hST k hk e))⟩

theorem Kept.alloc (S : Nat → Prop) (w : World) (o : Obj) : Kept S w (w.alloc o) :=
  ⟨rfl, rfl, rfl, by simp, fun k hk _ => Below.heap_alloc w o k hk⟩

theorem Kept.setCell {S : Nat → Prop} (w : World) {a : Addr} (h : S a.block) (u : Value) : Kept S w (w.setCell a u) :=
  ⟨rfl, rfl, rfl, by simp [World.setCell], fun k _ hn => Below.heap_setCell _ _ _ _ (fun e => hn (e ▸ h))⟩

theorem Kept.drewN (S : Nat → Prop) (w : World) (n : Nat) : Kept S w (w.drewN n) := ⟨rfl, rfl, rfl, Nat.le_refl _, fun _ _ _ => rfl⟩

theorem Kept.of_grown {w w' : World} {row : Option Nat} (h : w.grownBy w' row) : Kept (fun k => some k = row) w w' :=
  ⟨h.os, h.tape, h.output, h.size, fun k hk hn => h.block k hk hn⟩

theorem Kept.below {S : Nat → Prop} {w w' : World} {B : Nat} (h : Kept S w w') (hB : B ≤ w.heap.size) (hS : ∀ k, S k → B ≤ k) : Below B w w' :=
  ⟨h.os, h.tape, h.output, h.size, fun k hk => h.block k (by omega) (fun e => by have := hS k e; omega)⟩

theorem Kept.cell {S : Nat → Prop} {w w' : World} (h : Kept S w w') {a : Addr} {v : Value} (hc : w.cell? a = some v) (hn : ¬ S a.block) : w'.cell? a = some v :=
  (World.cell?_of_block (h.block a.block (World.block_lt_of_cell? w a hc) hn)).trans hc

/-! ### a map from strings to nodes -/
/-- How an element, a pointer to a whole block or nil, reads. -/
def ptrElem : Value → Option (DataW Unit × List MemPlace)
  | .pointer none => some (.nil, [])
  | .pointer (some a) => if a.off = 0 ∧ a.spot = none then some (.lit (.int .i64 a.block), []) else none
  | _ => none

theorem ptrElem_nil : ptrElem (.pointer none) = some (.nil, []) := rfl
theorem ptrElem_mk (b : Nat) : ptrElem (.pointer (some ⟨b, 0, none⟩)) = some (.lit (.int .i64 b), []) := by simp [ptrElem]

theorem ptrElem_inv_nil {v : Value} {ps : List MemPlace} (h : ptrElem v = some (.nil, ps)) : v = .pointer none := by
  unfold ptrElem at h
  split at h
  · rfl
  · split at h <;> cases h
  · cases h

theorem ptrElem_inv {v : Value} {b : Nat} {ps : List MemPlace} (h : ptrElem v = some (.lit (.int .i64 b), ps)) : v = .pointer (some ⟨b, 0, none⟩) := by
  unfold ptrElem at h
  split at h
  · cases h
  · rename_i a
    split at h
    · rename_i hc
      obtain ⟨h1, h2⟩ := hc
      simp only [Option.some.injEq, Prod.mk.injEq, DataW.lit.injEq, Lit.int.injEq, true_and] at h
      obtain ⟨h3, _⟩ := h
      have h4 : a.block = b := by omega
      cases a
      simp_all
    · cases h
  · cases h

theorem law : Keyed Try.prog 9 := string_keyed Try.underlying9
theorem zeroE (w : World) : (zeroValue 30).run Try.prog w = .ok (.pointer none) w := by kernel_rfl

/-- What a string reads as, as a key. -/
def key (s : ByteArray) : Lit := .string s.data.toList
theorem key_isKey (s : ByteArray) : WideAt.IsKeyLit (key s) := trivial
theorem key_inj {s t : ByteArray} (h : key s = key t) : s = t := by
  unfold key at h
  have h1 : s.data.toList = t.data.toList := by simpa using h
  cases s; cases t
  simp_all
theorem key_ne {s t : ByteArray} (h : s ≠ t) : key s ≠ key t := fun e => h (key_inj e)
theorem key_of {s : ByteArray} (h : s.size ≤ maxLen) : keyOf Try.prog 9 (.string s) = some (key s) := Go.WideMaps.keyOf_string_mk Try.underlying9 h

/-- The datum of what a key leads to. -/
def at? : Option Nat → DataW Unit
  | some b => .lit (.int .i64 b)
  | none => .nil

/-- The pointer to node 'b', or nil. -/
def ptr (o : Option Nat) : Value := .pointer (o.map fun b => ⟨b, 0, none⟩)

theorem ptrElem_at {v : Value} {o : Option Nat} {ps : List MemPlace} (h : ptrElem v = some (at? o, ps)) : v = ptr o := by
  cases o with
  | none => exact ptrElem_inv_nil h
  | some b => exact ptrElem_inv h

/-- BLOCK b IS A MAP OF 'sz' ENTRIES, ALL OF WHICH LEAD TO NODES: the key s to the node of block 'f s'. -/
def IsM (w : World) (b : Nat) (f : ByteArray → Option Nat) (sz : Nat) : Prop :=
  ∃ D : DataW Unit, w.ownsMap Try.prog 9 ptrElem b sz D ∧ Maps.size D = sz ∧ ∀ s : ByteArray, Maps.has D (key s) = (f s).isSome ∧ D.atKey (key s) .nil = at? (f s)

theorem IsM.lt {w : World} {b sz : Nat} {f : ByteArray → Option Nat} (h : IsM w b f sz) : b < w.heap.size := by
  obtain ⟨D, h1, _⟩ := h
  exact h1.lt

theorem IsM.kept {w w' : World} {b sz : Nat} {f : ByteArray → Option Nat} {S : Nat → Prop} (h : IsM w b f sz) (hk : Kept S w w') (hn : ¬ S b) : IsM w' b f sz := by
  obtain ⟨D, h1, h2⟩ := h
  refine ⟨D, ?_, h2⟩
  obtain ⟨es, clock, hb, r⟩ := h1
  exact ⟨es, clock, (hk.block b (Array.getElem?_eq_some_iff.1 hb).1 hn).trans hb, r⟩

theorem IsM.look {w : World} {b sz : Nat} {f : ByteArray → Option Nat} (h : IsM w b f sz) {s : ByteArray} (hs : s.size ≤ maxLen) :
    (Instr.lookup 26 (.map (some b)) (.string s) false).run Try.prog w = .ok (ptr (f s)) w := by
  obtain ⟨D, h1, _, h3⟩ := h
  obtain ⟨v, ps, hrun, hv⟩ := h1.lookup law Try.underlying26 (zeroE w) ptrElem_nil (key_of hs)
  rw [(h3 s).2] at hv
  rw [hrun, ptrElem_at hv]

theorem IsM.look_ok {w : World} {b sz : Nat} {f : ByteArray → Option Nat} (h : IsM w b f sz) {s : ByteArray} (hs : s.size ≤ maxLen) :
    (Instr.lookup 26 (.map (some b)) (.string s) true).run Try.prog w = .ok (.tuple #[ptr (f s), .bool (f s).isSome]) w := by
  obtain ⟨D, h1, _, h3⟩ := h
  obtain ⟨v, ps, hrun, hv⟩ := h1.look_ok law Try.underlying26 (zeroE w) ptrElem_nil (key_of hs)
  rw [(h3 s).2] at hv
  rw [(h3 s).1] at hrun
  rw [hrun, ptrElem_at hv]

theorem IsM.len {w : World} {b sz : Nat} {f : ByteArray → Option Nat} (h : IsM w b f sz) (ty : TypeId) :
    (Builtin.len_ #[26] ty #[.map (some b)]).run Try.prog w = .ok (.int .i64 sz) w := by
  obtain ⟨D, h1, h2, _⟩ := h
  rw [← h2]
  exact h1.len Try.underlying26 ty

theorem IsM_made (w : World) : IsM (w.alloc (.map #[] 0)) w.heap.size (fun _ => none) 0 :=
  ⟨.map [], World.ownsMap_made _ _ _ _, rfl, fun _ => ⟨rfl, rfl⟩⟩

/-- The function with one key turned. -/
def upd (f : ByteArray → Option Nat) (s : ByteArray) (b : Nat) : ByteArray → Option Nat := fun x => if x = s then some b else f x
theorem upd_same (f : ByteArray → Option Nat) (s : ByteArray) (b : Nat) : upd f s b s = some b := by simp [upd]
theorem upd_other (f : ByteArray → Option Nat) {s x : ByteArray} (b : Nat) (h : x ≠ s) : upd f s b x = f x := by simp [upd, h]

/-- How many entries there are behind a store. -/
def grow (f : ByteArray → Option Nat) (s : ByteArray) (sz : Nat) : Nat := if (f s).isSome then sz else sz + 1

theorem IsM.update {w : World} {b sz : Nat} {f : ByteArray → Option Nat} (h : IsM w b f sz) (hn : sz < maxLen) {s : ByteArray} (hs : s.size ≤ maxLen) (c : Nat) :
    ∃ w', (Instr.mapUpdate 26 (.map (some b)) (.string s) (.pointer (some ⟨c, 0, none⟩))).run Try.prog w = .ok () w' ∧ IsM w' b (upd f s c) (grow f s sz) ∧ Kept (fun k => k = b) w w' := by
  obtain ⟨D, h1, h2, h3⟩ := h
  obtain ⟨w', hrun, hown, hg⟩ := h1.update law Try.underlying26 hn (key_of hs) (ptrElem_mk c)
  have hsz : Maps.size (D.put (key s) (.lit (.int .i64 c))) = grow f s sz := by
    rw [Maps.size_put (h1.tidy law), (h3 s).1, h2]
    rfl
  refine ⟨w', hrun, ⟨_, ?_, hsz, ?_⟩, (Kept.of_grown hg).mono (fun k _ e => by simpa using e)⟩
  · obtain ⟨es, clock, hb, F, _, hD⟩ := hown
    refine ⟨es, clock, hb, F, ?_, hD⟩
    rw [← hsz, hD]
    simp [Maps.size, length_sorted]
  · intro x
    by_cases hx : x = s
    · subst hx
      rw [Maps.has_put_same h1.isMap (key_isKey x), Maps.atKey_put_same h1.isMap (key_isKey x), upd_same]
      exact ⟨rfl, rfl⟩
    · rw [Maps.has_put_other (key_ne hx), Maps.atKey_put_other (key_ne hx), upd_other _ _ hx]
      exact h3 x

/-- 'm[s] = &node' AT THE OPERATION, for the walk. -/
theorem wp_store {w : World} {ops : Array Oper} {rest : List Oper} {o : Oper} {a : Act} {Q : Exit → Act → World → Prop}
    (hg : o.guard = none) (m x v : Operand) (hop : o.op = Op.mapUpdate 26 m x v) (b : Nat) {f : ByteArray → Option Nat} {sz : Nat}
    (hm : a.eval m = .map (some b)) (hown : IsM w b f sz) (hn : sz < maxLen) (s : ByteArray) (c : Nat) (hx : a.eval x = .string s) (hv : a.eval v = .pointer (some ⟨c, 0, none⟩)) (hs : s.size ≤ maxLen)
    (hK : ∀ w', IsM w' b (upd f s c) (grow f s sz) → Kept (fun k => k = b) w w' → wpList Try.prog ops Q rest (a.put o.dst undef) w') :
    wpList Try.prog ops Q (o :: rest) a w := by
  refine wpList_plain hg fun K' hK' => ?_
  obtain ⟨w', hrun, r1, r2⟩ := hown.update hn hs c
  unfold Oper.wp
  simp [execOp, hop, hm, hx, hv, hrun, Result.andThen]
  exact hK' _ _ (hK w' r1 r2)

/-! ### a slice of strings -/
/-- The slice v holds the strings ss. -/
def IsStrs (w : World) (v : Value) (ss : List ByteArray) : Prop :=
  (ss = [] ∧ ∃ a c, v = .slice a 0 c) ∨
  ∃ b off c, v = .slice (some ⟨b, off, none⟩) ss.length c ∧ ∀ i, i < ss.length → w.cell? ⟨b, off + i, none⟩ = some (.string (ss.getD i ByteArray.empty))

theorem IsStrs.kept {w w' : World} {v : Value} {ss : List ByteArray} {S : Nat → Prop} (h : IsStrs w v ss) (hk : Kept S w w') (hn : ∀ k, v.ownBlock = some k → ¬ S k) : IsStrs w' v ss := by
  rcases h with h | ⟨b, off, c, rfl, hc⟩
  · exact .inl h
  · exact .inr ⟨b, off, c, rfl, fun i hi => hk.cell (hc i hi) (hn b rfl)⟩

/-! ### a node -/
/-- BLOCK d IS A NODE. -/
structure Node (w : World) (d : Nat) (what : ByteArray) (attrs : Value) (ch : Option Nat) (text : Bool) : Prop where
  c0 : w.cell? ⟨d, 0, none⟩ = some (.string what)
  c1 : w.cell? ⟨d, 1, none⟩ = some attrs
  c2 : w.cell? ⟨d, 2, none⟩ = some (.map ch)
  c3 : w.cell? ⟨d, 3, none⟩ = some (.bool text)
  c4 : w.cell? ⟨d, 4, none⟩ = some (.bool false)

theorem Node.kept {w w' : World} {d : Nat} {what : ByteArray} {attrs : Value} {ch : Option Nat} {text : Bool} {S : Nat → Prop} (h : Node w d what attrs ch text) (hk : Kept S w w') (hn : ¬ S d) : Node w' d what attrs ch text :=
  ⟨hk.cell h.c0 hn, hk.cell h.c1 hn, hk.cell h.c2 hn, hk.cell h.c3 hn, hk.cell h.c4 hn⟩

theorem Node.lt {w : World} {d : Nat} {what : ByteArray} {attrs : Value} {ch : Option Nat} {text : Bool} (h : Node w d what attrs ch text) : d < w.heap.size :=
  World.block_lt_of_cell? w ⟨d, 0, none⟩ h.c0

end Go.Proofs.Qxb6618487a.Dc
