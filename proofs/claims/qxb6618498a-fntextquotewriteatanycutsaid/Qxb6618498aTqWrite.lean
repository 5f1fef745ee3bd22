/-
  SEAT b6618498a: WriteString (19), Write (16), ZZTextQuoteWrite (7), ZZNewTextQuote (6).
-/
import Derived.Test.Qxb6618498aTqStr
namespace Go.Proofs.Qxb6618498a.Tq
open Go.RowKit

/-- BLOCK d IS A textQuote: its head v, of the call's own memory, holds H; it has counted n. -/
structure TQ (w : World) (base d : Nat) (v : Value) (H : List Nat) (n : Nat) : Prop where
  blk : w.heap[d]? = some (.cells #[v, .int .i64 (n : Int)] 42 (0, 0))
  own : Owns w base v H
  low : base ≤ d

theorem TQ.head {w : World} {base d : Nat} {v : Value} {H : List Nat} {n : Nat} (h : TQ w base d v H n) : w.cell? ⟨d, 0, none⟩ = some v := by
  rw [cell_of_row _ _ 0 _ _ _ h.blk]; rfl
theorem TQ.cnt {w : World} {base d : Nat} {v : Value} {H : List Nat} {n : Nat} (h : TQ w base d v H n) : w.cell? ⟨d, 1, none⟩ = some (.int .i64 (n : Int)) := by
  rw [cell_of_row _ _ 1 _ _ _ h.blk]; rfl
theorem frozen_blk {w : World} {d : Nat} {cs : Array Value} (h : w.heap[d]? = some (.cells cs 42 (0, 0))) (o : Nat) : w.frozen? ⟨d, o, none⟩ = false := frozen_of_row w d o cs 42 h

theorem Kept.setCell {S : Nat → Prop} (w : World) {a : Addr} (h : S a.block) (u : Value) : Kept S w (w.setCell a u) :=
  ⟨rfl, rfl, rfl, by simp [World.setCell], fun k _ hn => Below.heap_setCell _ _ _ _ (fun e => hn (e ▸ h))⟩

theorem Owns.not42 {w : World} {base d : Nat} {v : Value} {H : List Nat} {cs : Array Value} (h : Owns w base v H) (hb : w.heap[d]? = some (.cells cs 42 (0, 0))) : v.ownBlock ≠ some d := by
  intro e
  rcases h.2 with ⟨rfl, _⟩ | ⟨g, cap, cur, rfl, _, hg, _⟩
  · simp [Value.ownBlock] at e
  · simp [Value.ownBlock] at e
    subst e
    rw [hb] at hg
    simp at hg

set_option maxRecDepth 100000 in
set_option maxHeartbeats 1000000 in
theorem ws_core (w : World) (d : Nat) (x : Option Addr) (h c : Nat) (n k : Nat) (s : ByteArray) (c0 : w.cell? ⟨d, 0, none⟩ = some (.slice x h c)) (c1 : w.cell? ⟨d, 1, none⟩ = some (.int .i64 (n : Int))) (f1 : w.frozen? ⟨d, 1, none⟩ = false)
    (hh : h < 100) (hn : n ≤ 2097152) (hs : s.size ≤ 2097152) (hk : k = min (100 - h) s.size) (w2 : World) (x' : Option Addr) (h' c' : Nat)
    (HR : Hid (∀ ty, (Builtin.append_ #[22, 9] ty #[.slice x h c, .string (s.extract 0 k)]).run Try.prog (w.setCell ⟨d, 1, none⟩ (.int .i64 ((n : Int) + (s.size : Int)))).drew = .ok (.slice x' h' c') w2))
    (C2 : w2.cell? ⟨d, 0, none⟩ = some (.slice x h c)) (F2 : w2.frozen? ⟨d, 0, none⟩ = false) :
    Calls Try.prog 19 #[.pointer (some ⟨d, 0, none⟩), .string s] w fun e w' => e = .returned (.tuple #[.int .i64 (s.size : Int), .nilIface]) ∧ w2.setCell ⟨d, 0, none⟩ (.slice x' h' c') = w' := by
  have m0 : 0 ≤ min (100 - (h : Int)) (s.size : Int) := by omega
  have m1 : min (100 - (h : Int)) (s.size : Int) ≤ (s.size : Int) := by omega
  have m2 : (min (100 - (h : Int)) (s.size : Int)).toNat = k := by omega
  have t0 : (0 : Int) < 100 - (h : Int) := by omega
  clear hk
  go_enter Try.func19, Try.ntmps19
  go_wp2
  go_region_law (refine step_append_str rfl _ _ rfl _ _ _ w2 rfl rfl HR.out ?_)
  all_goals
    go_wp2
    go_ret2
    exact ⟨rfl, rfl⟩

set_option maxRecDepth 100000 in
theorem ws_full (w : World) (d : Nat) (x : Option Addr) (h c : Nat) (n : Nat) (s : ByteArray) (c0 : w.cell? ⟨d, 0, none⟩ = some (.slice x h c)) (c1 : w.cell? ⟨d, 1, none⟩ = some (.int .i64 (n : Int))) (f1 : w.frozen? ⟨d, 1, none⟩ = false)
    (hh : h = 100) (hn : n ≤ 2097152) (hs : s.size ≤ 2097152) :
    Calls Try.prog 19 #[.pointer (some ⟨d, 0, none⟩), .string s] w fun e w' => e = .returned (.tuple #[.int .i64 (s.size : Int), .nilIface]) ∧ w.setCell ⟨d, 1, none⟩ (.int .i64 ((n : Int) + (s.size : Int))) = w' := by
  subst hh
  go_enter Try.func19, Try.ntmps19
  go_wp2
  go_ret2
  exact ⟨rfl, rfl⟩

/-- What a write leaves. -/
structure Wrote (w w' : World) (base d : Nat) (v v' : Value) (H : List Nat) (n : Nat) (X : List Nat) : Prop where
  tq : TQ w' base d v' (H ++ X.take (100 - H.length)) (n + X.length)
  old : Kept (fun k => k = d ∨ v.ownBlock = some k) w w'
  lies : v'.ownBlock = v.ownBlock ∨ ∃ k, v'.ownBlock = some k ∧ w.heap.size ≤ k

theorem ws_calls (w : World) (base d : Nat) (v : Value) (H : List Nat) (n : Nat) (s : ByteArray) (hT : TQ w base d v H n) (hH : H.length ≤ 100) (hn : n ≤ 2097152) (hs : s.size ≤ 1048576) (hb : base ≤ w.heap.size) :
    Calls Try.prog 19 #[.pointer (some ⟨d, 0, none⟩), .string s] w fun e w' => e = .returned (.tuple #[.int .i64 (s.size : Int), .nilIface]) ∧ ∃ v', Wrote w w' base d v v' H n (nats s) := by
  obtain ⟨x, c, hv⟩ := hT.own.isBytes.shape
  have hne := hT.own.not42 hT.blk
  have hdlt : d < w.heap.size := (Array.getElem?_eq_some_iff.1 hT.blk).1
  have b1 : (w.setCell ⟨d, 1, none⟩ (.int .i64 ((n : Int) + (s.size : Int)))).heap[d]? = some (.cells #[v, .int .i64 ((n : Int) + (s.size : Int))] 42 (0, 0)) := heap_setCell_same w d 1 _ 42 _ hT.blk
  have k1 : Kept (fun k => k = d) w (w.setCell ⟨d, 1, none⟩ (.int .i64 ((n : Int) + (s.size : Int)))) := Kept.setCell (S := fun k => k = d) w rfl _
  have o1 := hT.own.kept k1 (fun k hk e => hne (e ▸ hk))
  have ecnt : ((n + (nats s).length : Nat) : Int) = (n : Int) + (s.size : Int) := by rw [nats_length]; omega
  by_cases hfull : H.length = 100
  · have h0 := hT.head
    rw [hv] at h0
    refine (ws_full w d x H.length c n s h0 hT.cnt (frozen_blk hT.blk 1) hfull hn (by omega)).mono ?_
    rintro e w' ⟨rfl, rfl⟩
    refine ⟨rfl, v, ⟨⟨?_, ?_, hT.low⟩, k1.mono (fun k _ e => .inl e), .inl rfl⟩⟩
    · rw [ecnt]; exact b1
    · rw [hfull, Nat.sub_self, List.take_zero, List.append_nil]
      exact o1
  · have hlt : H.length < 100 := by omega
    obtain ⟨v', w2, hr, ho, hk2, hl, x', h', c', hv'⟩ := run_append_str (w.setCell ⟨d, 1, none⟩ (.int .i64 ((n : Int) + (s.size : Int)))).drew 22 base v H (s.extract 0 (min (100 - H.length) s.size)) o1 (by simp; omega) (by simpa using hb)
    have b2 : w2.heap[d]? = some (.cells #[v, .int .i64 ((n : Int) + (s.size : Int))] 42 (0, 0)) := (hk2.block d (by simpa using hdlt) hne).trans b1
    have h0 := hT.head
    have C2 : w2.cell? ⟨d, 0, none⟩ = some v := by rw [cell_of_row _ _ 0 _ _ _ b2]; rfl
    have b3 := heap_setCell_same w2 d 0 _ 42 v' b2
    have hne' := ho.not42 b2
    have k3 : Kept (fun k => k = d) w2 (w2.setCell ⟨d, 0, none⟩ v') := Kept.setCell (S := fun k => k = d) w2 rfl _
    have hX : nats (s.extract 0 (min (100 - H.length) s.size)) = (nats s).take (100 - H.length) := by
      rw [nats_take]
      by_cases hle : 100 - H.length ≤ s.size
      · rw [Nat.min_eq_left hle]
      · rw [Nat.min_eq_right (by omega), List.take_of_length_le (by rw [nats_length]; omega), List.take_of_length_le (by rw [nats_length]; omega)]
    rw [hX] at ho
    subst hv'
    rw [hv] at h0 hr C2
    refine (ws_core w d x H.length c n (min (100 - H.length) s.size) s h0 hT.cnt (frozen_blk hT.blk 1) hlt hn (by omega) rfl w2 x' h' c' (fun _ => hr) C2 (frozen_blk b2 0)).mono ?_
    rintro e w' ⟨rfl, rfl⟩
    refine ⟨rfl, .slice x' h' c', ⟨⟨?_, ho.kept k3 (fun k hk e => hne' (e ▸ hk)), hT.low⟩, ?_, ?_⟩⟩
    · rw [ecnt]; exact b3
    · exact (((k1.trans (Kept.drewN (fun _ => False) _ 1)).trans hk2).trans k3).mono (fun k _ e => by
        rcases e with ((e | e) | e) | e
        · exact .inl e
        · exact e.elim
        · exact .inr e
        · exact .inl e)
    · rcases hl with h | h
      · exact .inl h
      · exact .inr ⟨_, h, by simp⟩

end Go.Proofs.Qxb6618498a.Tq
