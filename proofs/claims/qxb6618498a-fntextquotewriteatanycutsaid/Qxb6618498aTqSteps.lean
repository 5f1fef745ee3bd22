/-
  SEAT b6618498a: the two quotes, write by write.
-/
import Derived.Test.Qxb6618498aTqState
namespace Go.Proofs.Qxb6618498a.Tq
open Go.RowKit

/-- While the first quote is written: it is block d, and all that it has made lies from d on; the second piece and the whole lie ahead of it. -/
structure Q1 (w wr : World) (d : Nat) (v1 vw h : Value) (H : List Nat) (n : Nat) (Y Z : List Nat) : Prop where
  tq : TQ wr w.heap.size d h H n
  s : Owns wr w.heap.size v1 Y
  all : Owns wr w.heap.size vw Z
  old : Below w.heap.size w wr
  hs : ∀ k, h.ownBlock = some k → d ≤ k
  l1 : ∀ k, v1.ownBlock = some k → k < d
  lw : ∀ k, vw.ownBlock = some k → k < d

theorem Q1.size {w wr : World} {d : Nat} {v1 vw h : Value} {H : List Nat} {n : Nat} {Y Z : List Nat} (q : Q1 w wr d v1 vw h H n Y Z) : d < wr.heap.size := (Array.getElem?_eq_some_iff.1 q.tq.blk).1

theorem Q1.start {w w3 : World} {g : Nat} {v0 v1 vw : Value} {X Y : List Nat} (h : Whole w w3 g v0 v1 vw X Y) :
    Q1 w (w3.alloc emptyTQ) w3.heap.size v1 vw (.slice none 0 0) [] 0 Y (X ++ Y) ∧ Owns (w3.alloc emptyTQ) w.heap.size v0 X := by
  have hk := Kept.alloc (fun _ => False) w3 emptyTQ
  have hb := h.old.size
  refine ⟨⟨new_tq w3 _ hb, h.s.kept hk (fun _ _ h => h), h.all.kept hk (fun _ _ h => h), h.old.trans (hk.below hb (fun _ h => h.elim)), fun k e => by simp [Value.ownBlock] at e, fun k hk' => (h.s.lt k hk').2, fun k hk' => (h.all.lt k hk').2⟩, h.d.kept hk (fun _ _ h => h)⟩

theorem Q1.step {w wr wr' : World} {d : Nat} {v1 vw h h' : Value} {H : List Nat} {n : Nat} {Y Z X : List Nat} (q : Q1 w wr d v1 vw h H n Y Z) (hw : Wrote wr wr' w.heap.size d h h' H n X) :
    Q1 w wr' d v1 vw h' (H ++ X.take (100 - H.length)) (n + X.length) Y Z := by
  have hd := q.size
  have hb := q.old.size
  have hlow := q.tq.low
  have hS : ∀ k, (k = d ∨ h.ownBlock = some k) → d ≤ k := fun k e => by
    rcases e with e | e
    · omega
    · exact q.hs k e
  refine ⟨hw.tq, q.s.kept hw.old (fun k hk e => ?_), q.all.kept hw.old (fun k hk e => ?_), q.old.trans (hw.old.below hb (fun k e => by have := hS k e; omega)), fun k e => ?_, q.l1, q.lw⟩
  · have := q.l1 k hk
    have := hS k e
    omega
  · have := q.lw k hk
    have := hS k e
    omega
  · rcases hw.lies with h1 | ⟨k', h1, h2⟩
    · exact q.hs k (h1 ▸ e)
    · rw [e] at h1
      have := Option.some.inj h1
      omega

/-- Both quotes written. -/
structure FinT (w wz : World) (d1 d2 : Nat) (h1 h2 vw : Value) (Z : List Nat) : Prop where
  t1 : TQ wz w.heap.size d1 h1 (Z.take 100) Z.length
  t2 : TQ wz w.heap.size d2 h2 (Z.take 100) Z.length
  all : IsBytes wz vw Z
  old : Below w.heap.size w wz

theorem take_join (X Y : List Nat) : X.take 100 ++ Y.take (100 - (X.take 100).length) = (X ++ Y).take 100 := by
  rw [List.take_append, List.length_take]
  congr 2
  omega

theorem FinT.of {w w6 w8 : World} {d1 : Nat} {v1 vw h1 h2 : Value} {Y Z : List Nat} (q : Q1 w w6 d1 v1 vw h1 (Z.take 100) Z.length Y Z) (hw : Wrote (w6.alloc emptyTQ) w8 w.heap.size w6.heap.size (.slice none 0 0) h2 [] 0 Z) :
    FinT w w8 d1 w6.heap.size h1 h2 vw Z := by
  have hd := q.size
  have hb := q.old.size
  have hk := Kept.alloc (fun _ => False) w6 emptyTQ
  have hk8 : Kept (fun k => k = w6.heap.size) w6 w8 := (hk.trans hw.old).mono (fun k _ e => by
    rcases e with e | e | e
    · exact e.elim
    · exact e
    · simp [Value.ownBlock] at e)
  have hn : ∀ {v : Value} {A : List Nat}, Owns w6 w.heap.size v A → ∀ k, v.ownBlock = some k → ¬ k = w6.heap.size := fun h k e e' => by have := h.lt k e; omega
  refine ⟨⟨(hk8.block d1 hd (by omega)).trans q.tq.blk, q.tq.own.kept hk8 (hn q.tq.own), q.tq.low⟩, ?_, (q.all.kept hk8 (hn q.all)).isBytes, q.old.trans (hk8.below hb (fun k e => by omega))⟩
  have := hw.tq
  simpa using this

theorem IsBytes.first {w : World} {b off n c : Nat} {Z : List Nat} (h : IsBytes w (.slice (some ⟨b, off, none⟩) n c) Z) (k : Nat) (hk : k = min Z.length 100) : IsBytes w (.slice (some ⟨b, off, none⟩) k c) (Z.take 100) := by
  have hl : (Z.take 100).length = k := by rw [List.length_take, hk]; omega
  rcases h with ⟨rfl, a, c', e⟩ | ⟨b', off', c', e, hc⟩
  · left
    refine ⟨rfl, some ⟨b, off, none⟩, c, ?_⟩
    simp at hk
    rw [hk]
  · right
    simp only [Value.slice.injEq, Option.some.injEq, Addr.mk.injEq, and_true] at e
    obtain ⟨⟨rfl, rfl⟩, rfl, rfl⟩ := e
    refine ⟨b, off, c, by rw [hl], fun i hi => ?_⟩
    rw [hl] at hi
    rw [hc i (by omega)]
    simp only [List.getD_eq_getElem?_getD]
    rw [List.getElem?_take, if_pos (by omega)]

end Go.Proofs.Qxb6618498a.Tq
