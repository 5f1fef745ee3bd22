/-
  SEAT b6618498a: what stands between the law's statements, without the walk.
-/
import Derived.Test.Qxb6618498aTqCalls
namespace Go.Proofs.Qxb6618498a.Tq
open Go.RowKit

theorem below_drewN_self (w : World) (B n : Nat) : Below B w (w.drewN n) := ⟨rfl, rfl, rfl, Nat.le_refl _, fun _ _ => rfl⟩

theorem nats_append (D S : ByteArray) : nats (D ++ S) = nats D ++ nats S := by
  unfold nats
  simp

/-! ### the copies -/
def Copied (w wr : World) (v : Value) (X : List Nat) : Prop := Owns wr w.heap.size v X ∧ Kept (fun _ => False) w wr

theorem run_copy_of (w : World) (base g : Nat) (xs : List Value) (u : Value) (D : ByteArray)
    (hown : w.ownsRow base 5 1 (.slice (some ⟨g, 0, none⟩) D.size D.size) D.size xs) (hu : IsBytes w u (nats D)) :
    ∃ w', (∀ ty, (Builtin.copy_ #[22, 22] ty #[.slice (some ⟨g, 0, none⟩) D.size D.size, u]).run Try.prog w = .ok (goInt D.size) w') ∧ Owns w' base (.slice (some ⟨g, 0, none⟩) D.size D.size) (nats D) ∧ Kept (fun k => k = g) w w' := by
  have := run_copy_made w base g xs u (nats D)
  rw [nats_length] at this
  exact this hown hu

theorem copied_of {w w1 w2 : World} {X : List Nat} {g n : Nat} (hg : w.grownBy w1 none) (hO : Owns w2 w.heap.size (.slice (some ⟨g, 0, none⟩) n n) X) (hK : Kept (fun k => k = g) w1 w2) (hlt : g = w.heap.size) :
    Copied w w2 (.slice (some ⟨g, 0, none⟩) n n) X :=
  ⟨hO, ((Kept.of_grown hg).trans hK).mono (fun k hk e => by
    rcases e with e | e
    · cases e
    · omega)⟩

/-- Both copies. -/
structure Both (w wb : World) (v0 v1 : Value) (X Y : List Nat) : Prop where
  d : Owns wb w.heap.size v0 X
  s : Owns wb w.heap.size v1 Y
  old : Kept (fun _ => False) w wb

theorem Both.of {w wa wb : World} {v0 v1 : Value} {X Y : List Nat} (h0 : Copied w wa v0 X) (h1 : Copied wa wb v1 Y) : Both w wb v0 v1 X Y := by
  have s0 := h0.2.size
  exact ⟨h0.1.kept h1.2 (fun _ _ h => h), h1.1.mono s0, (h0.2.trans h1.2).mono (fun _ _ e => e.elim id id)⟩

/-! ### 'whole' -/
theorem Owns.none_ {w : World} {base n c : Nat} {X : List Nat} (h : Owns w base (.slice none n c) X) : n = 0 ∧ c = 0 := by
  rcases h.2 with ⟨e, _⟩ | ⟨g, cap, cur, e, _⟩
  · simp at e; exact e
  · simp at e

theorem run_append_fit (w : World) (base base' g cap : Nat) (X Y : List Nat) (u : Value) (hown : Owns w base (.slice (some ⟨g, 0, none⟩) X.length cap) X) (hu : Owns w base' u Y) (hfit : X.length + Y.length ≤ cap) :
    ∃ w', (∀ ty, (Builtin.append_ #[22, 22] ty #[.slice (some ⟨g, 0, none⟩) X.length cap, u]).run Try.prog w = .ok (.slice (some ⟨g, 0, none⟩) (X.length + Y.length) cap) w') ∧
      Owns w' base (.slice (some ⟨g, 0, none⟩) (X.length + Y.length) cap) (X ++ Y) ∧ Kept (fun k => k = g) w w' := by
  obtain ⟨i0, hi, hz0, hz1, hz2⟩ := info_parts info5
  rcases hu.2 with ⟨rfl, hn⟩ | ⟨g', cap', cur', rfl, _⟩
  · have hY : Y = [] := List.eq_nil_of_length_eq_zero hn
    subst hY
    refine ⟨w, fun ty => ?_, ?_, Kept.refl _ _⟩
    · exact run_append_owned_none (P := Try.prog) w base 22 ty 5 i0 1 Try.underlying22 hi _ X.length (X.map bv) hown
    · rw [List.append_nil, List.length_nil, Nat.add_zero]
      exact hown
  · obtain ⟨w', hr, ho, hg⟩ := run_append_fits (P := Try.prog) w base 22 22 5 i0 1 Try.underlying22 hi hz1 g X.length cap (X.map bv) hown ⟨g', 0, none⟩ Y.length cap' (Y.map bv) (by simp) (World.ownsRow.cells hu (g := g') rfl) (bv_one Y) hfit
    refine ⟨w', fun _ => hr, ?_, (Kept.of_grown hg).mono (fun k _ e => by simpa using e)⟩
    unfold Owns
    rw [List.length_append, List.map_append]
    exact ho

/-- The append at its operation, for the walk. -/
theorem wp_append {w : World} {ops : Array Oper} {rest : List Oper} {o : Oper} {a : Act} {Q : Exit → Act → World → Prop} (hgd : o.guard = none) (s x : Operand)
    (ho : o.op = .call { callee := .builtin .append, args := #[s, x], argTypes := #[22, 22] }) (v u v' : Value) (w' : World) (hs : a.eval s = v) (hx : a.eval x = u)
    (hr : ∀ ty, (Builtin.append_ #[22, 22] ty #[v, u]).run Try.prog w = .ok v' w') (h : wpList Try.prog ops Q rest (a.put o.dst v') w') :
    wpList Try.prog ops Q (o :: rest) a w := by
  refine wpList_plain hgd fun K hK => ?_
  unfold Oper.wp execOp
  simp only [ho, resolve, invoke, builtin, Sem.run_bind, Sem.run_pure, Result.andThen_ok, List.map_toArray, List.map_cons, List.map_nil, hs, hx, hr]
  exact hK _ _ h

/-- 'whole' laid, beside the two copies. -/
structure Whole (w w3 : World) (g : Nat) (v0 v1 vw : Value) (X Y : List Nat) : Prop where
  d : Owns w3 w.heap.size v0 X
  s : Owns w3 w.heap.size v1 Y
  all : Owns w3 w.heap.size vw (X ++ Y)
  old : Below w.heap.size w w3
  blk : vw.ownBlock = some g

theorem whole_made {w wc w1 : World} {v0 v1 : Value} {D S : ByteArray} {g : Nat} (hB : Both w wc v0 v1 (nats D) (nats S)) (hg : wc.grownBy w1 none)
    (hown : w1.ownsRow w.heap.size 5 1 (.slice (some ⟨g, 0, none⟩) 0 (D.size + S.size)) 0 []) (hgw : g = wc.heap.size) :
    ∃ w2 w3, (∀ ty, (Builtin.append_ #[22, 22] ty #[.slice (some ⟨g, 0, none⟩) 0 (D.size + S.size), v0]).run Try.prog w1 = .ok (.slice (some ⟨g, 0, none⟩) D.size (D.size + S.size)) w2) ∧
      (∀ ty, (Builtin.append_ #[22, 22] ty #[.slice (some ⟨g, 0, none⟩) D.size (D.size + S.size), v1]).run Try.prog w2 = .ok (.slice (some ⟨g, 0, none⟩) (D.size + S.size) (D.size + S.size)) w3) ∧
      Whole w w3 g v0 v1 (.slice (some ⟨g, 0, none⟩) (D.size + S.size) (D.size + S.size)) (nats D) (nats S) := by
  have k1 := Kept.of_grown hg
  have d1 := hB.d.kept k1 (fun _ _ e => by cases e)
  have s1 := hB.s.kept k1 (fun _ _ e => by cases e)
  have h0 : Owns w1 w.heap.size (.slice (some ⟨g, 0, none⟩) ([] : List Nat).length (D.size + S.size)) [] := hown
  obtain ⟨w2, r2, o2, k2⟩ := run_append_fit w1 w.heap.size w.heap.size g (D.size + S.size) [] (nats D) v0 h0 d1 (by rw [nats_length]; simp)
  have l0 := hB.d.lt
  have l1 := hB.s.lt
  have d2 := d1.kept k2 (fun k hk e => by have := l0 k hk; omega)
  have s2 := s1.kept k2 (fun k hk e => by have := l1 k hk; omega)
  simp only [List.length_nil, Nat.zero_add, List.nil_append] at r2 o2
  obtain ⟨w3, r3, o3, k3⟩ := run_append_fit w2 w.heap.size w.heap.size g (D.size + S.size) (nats D) (nats S) v1 o2 s2 (by rw [nats_length, nats_length]; omega)
  rw [nats_length] at r2 r3 o3
  rw [nats_length] at r3 o3
  refine ⟨w2, w3, r2, r3, ⟨d2.kept k3 (fun k hk e => by have := l0 k hk; omega), s2.kept k3 (fun k hk e => by have := l1 k hk; omega), o3, ?_, rfl⟩⟩
  have s := hB.old.size
  have s1' := k1.size
  have s2' := k2.size
  exact (((hB.old.below (Nat.le_refl _) (fun _ h => h.elim)).trans (k1.below s (fun _ e => by cases e))).trans (k2.below (by omega) (fun k e => by omega))).trans (k3.below (by omega) (fun k e => by omega))

end Go.Proofs.Qxb6618498a.Tq
