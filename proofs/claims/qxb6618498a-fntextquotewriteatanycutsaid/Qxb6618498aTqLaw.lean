/-
  SEAT b6618498a: THE LAW FnTextQuoteWriteAtAnyCut (3).
-/
import Derived.Test.Qxb6618498aTqSteps
import Derived.Deep.Cut
namespace Go.Proofs.Qxb6618498a.Tq
open Go.RowKit
set_option linter.unusedVariables false

theorem Hid.mk {p : Prop} (h : p) : Hid p := h

theorem Q1.done {w wr : World} {d : Nat} {v1 vw h : Value} {X Y : List Nat} (q : Q1 w wr d v1 vw h ([] ++ X.take (100 - ([] : List Nat).length) ++ Y.take (100 - ([] ++ X.take (100 - ([] : List Nat).length)).length)) (0 + X.length + Y.length) Y (X ++ Y)) :
    Q1 w wr d v1 vw h ((X ++ Y).take 100) (X ++ Y).length Y (X ++ Y) := by
  have e1 : [] ++ X.take (100 - ([] : List Nat).length) ++ Y.take (100 - ([] ++ X.take (100 - ([] : List Nat).length)).length) = (X ++ Y).take 100 := take_join X Y
  have e2 : 0 + X.length + Y.length = (X ++ Y).length := by simp
  rw [e1, e2] at q
  exact q

set_option maxRecDepth 100000 in
set_option maxHeartbeats 4000000 in
theorem law_main (w : World) (a0 a1 : Option Addr) (c0 c1 : Nat) (D S : ByteArray) (hD : IsBytes w (.slice a0 D.size c0) (nats D)) (hS : IsBytes w (.slice a1 S.size c1) (nats S)) (hd : D.size ≤ 524288) (hs : S.size ≤ 524288)
    (hn0 : a0 = none → D = ⟨#[]⟩ ∧ c0 = 0) (hn1 : a1 = none → S = ⟨#[]⟩ ∧ c1 = 0) :
    Calls Try.prog 3 #[.slice a0 D.size c0, .slice a1 S.size c1] w fun e w' => e = .returned (.bool true) ∧ Below w.heap.size w w' := by
  have HD : Hid (IsBytes w (.slice a0 D.size c0) (nats D)) := hD
  have HS : Hid (IsBytes w (.slice a1 S.size c1) (nats S)) := hS
  have HN0 : Hid (a0 = none → D = ⟨#[]⟩ ∧ c0 = 0) := hn0
  have HN1 : Hid (a1 = none → S = ⟨#[]⟩ ∧ c1 = 0) := hn1
  clear hD hS hn0 hn1
  have t0 : ¬ (524288 : Int) < (D.size : Int) := by omega
  have t1 : ¬ (524288 : Int) < (S.size : Int) := by omega
  obtain ⟨i0, hi, hz0, hz1, hz2⟩ := info_parts info5
  have HI : Hid (Try.prog.info? 5 = some i0 ∧ i0.zero = some (.int .u8 0) ∧ i0.size = 1 ∧ i0.bytes = 1) := ⟨hi, hz0, hz1, hz2⟩
  clear hi hz0 hz1 hz2
  have hq := neq_nil
  go_enter Try.func3, Try.ntmps3
  go_wp2_with fail
  refine (zz_yes w a0 a1 D.size S.size c0 c1 (by omega)).mono ?_
  rintro e w' ⟨rfl, rfl⟩
  go_upto_if 28 with (fail)
  go_cut [0] from 17 (fun s wc => ∃ x c, s = .slice x D.size c ∧ Hid (Copied w' wc (.slice x D.size c) (nats D)))
  case first =>
    cases a0 with
    | none =>
      obtain ⟨h1, h2⟩ := HN0.out rfl
      subst h1 h2
      go_wp2
      go_meet
      case rel => exact ⟨none, 0, rfl, Owns_nil _ _, Kept.refl _ _⟩
    | some x =>
      go_wp2_with (at_make; refine wpList_make_full _ rfl _ _ 22 rfl w'.heap.size 5 i0 (.int .u8 0) 1 Try.underlying22 HI.out.1 HI.out.2.1 HI.out.2.2.1 _ _ _ _ D.size rfl rfl rfl rfl (by rw [HI.out.2.2.2]; omega) (by unfold maxLen; omega) (Nat.le_refl _) ?_; intro w1 hown hgrow; obtain ⟨w2, hr, hO, hK⟩ := run_copy_of w1 w'.heap.size w'.heap.size _ _ D hown (HD.out.kept (Kept.of_grown hgrow) (fun _ _ e => by cases e)); have HC : Hid (Copied w' w2 (.slice (some ⟨w'.heap.size, 0, none⟩) D.size D.size) (nats D)) := copied_of hgrow hO hK rfl; clear hown hgrow hO hK)
      go_meet
      case rel => exact ⟨_, _, rfl, HC⟩
  case rest =>
    obtain ⟨x0, k0, rfl, HC0⟩ := hcut
    go_upto_if 37 with (fail)
    go_cut [1] from 17 (fun s w2 => ∃ x c, s = .slice x S.size c ∧ Hid (Copied wc w2 (.slice x S.size c) (nats S)))
    case first =>
      cases a1 with
      | none =>
        obtain ⟨h1, h2⟩ := HN1.out rfl
        subst h1 h2
        go_wp2
        go_meet
        case rel => exact ⟨none, 0, rfl, Owns_nil _ _, Kept.refl _ _⟩
      | some x =>
        go_wp2_with (at_make; refine wpList_make_full _ rfl _ _ 22 rfl wc.heap.size 5 i0 (.int .u8 0) 1 Try.underlying22 HI.out.1 HI.out.2.1 HI.out.2.2.1 _ _ _ _ S.size rfl rfl rfl rfl (by rw [HI.out.2.2.2]; omega) (by unfold maxLen; omega) (Nat.le_refl _) ?_; intro w1 hown hgrow; obtain ⟨w2, hr, hO, hK⟩ := run_copy_of w1 wc.heap.size wc.heap.size _ _ S hown ((HS.out.kept HC0.out.2 (fun _ _ h => h)).kept (Kept.of_grown hgrow) (fun _ _ e => by cases e)); have HC : Hid (Copied wc w2 (.slice (some ⟨wc.heap.size, 0, none⟩) S.size S.size) (nats S)) := copied_of hgrow hO hK rfl; clear hown hgrow hO hK)
        go_meet
        case rel => exact ⟨_, _, rfl, HC⟩
    case rest =>
      obtain ⟨x1, k1, rfl, HC1⟩ := hcut
      have HB : Hid (Both w' wc (.slice x0 D.size k0) (.slice x1 S.size k1) (nats D) (nats S)) := Both.of HC0.out HC1.out
      clear HC0 HC1 HD HS HN0 HN1 hq
      go_wp2_with (first
        | (at_make; refine wpList_make_own _ rfl _ _ 22 rfl w'.heap.size 5 i0 (.int .u8 0) 1 Try.underlying22 HI.out.1 HI.out.2.1 HI.out.2.2.1 _ _ _ (D.size + S.size) rfl rfl (by omega) (by rw [HI.out.2.2.2]; omega) (by unfold maxLen; omega) HB.out.old.size ?_; intro w1 hown hgrow; obtain ⟨w2, w3, r2, r3, hW⟩ := whole_made HB.out hgrow hown rfl; have R2 := Hid.mk r2; have R3 := Hid.mk r3; have HW := Hid.mk hW; clear hown hgrow hW r2 r3)
        | (at_builtin; refine wp_append rfl (.tmp 51) (.tmp 52) rfl _ _ _ w2 rfl rfl R2.out ?_)
        | (at_builtin; refine wp_append rfl (.tmp 54) (.tmp 55) rfl _ _ _ w3 rfl rfl R3.out ?_))
      clear R2 R3 HI HB
      refine (new_calls w3).mono ?_
      rintro e w4 ⟨rfl, rfl⟩
      have HQ := Hid.mk (Q1.start HW.out)
      go_wp2_with fail
      refine (write_calls (w3.alloc emptyTQ) w'.heap.size w3.heap.size (.slice none 0 0) [] 0 D _ HQ.out.2.isBytes HQ.out.1.tq (by simp) (by omega) (by omega) HQ.out.1.old.size).mono ?_
      rintro e w5 ⟨rfl, h1, hw1⟩
      have HQ1 := Hid.mk (HQ.out.1.step hw1)
      clear hw1 HQ HW
      go_wp2_with fail
      refine (write_calls w5 w'.heap.size w3.heap.size h1 _ _ S _ HQ1.out.s.isBytes HQ1.out.tq (by simp; omega) (by rw [nats_length]; omega) (by omega) HQ1.out.old.size).mono ?_
      rintro e w6 ⟨rfl, h2, hw2⟩
      have HQ2 := Hid.mk (HQ1.out.step hw2).done
      clear hw2 HQ1
      go_wp2_with fail
      refine (new_calls w6).mono ?_
      rintro e w7 ⟨rfl, rfl⟩
      go_wp2_with fail
      refine (write_calls (w6.alloc emptyTQ) w'.heap.size w6.heap.size (.slice none 0 0) [] 0 (D ++ S) _ (by rw [nats_append]; exact (HQ2.out.all.kept (Kept.alloc (fun _ => False) w6 emptyTQ) (fun _ _ h => h)).isBytes) (new_tq w6 _ HQ2.out.old.size) (by simp) (by omega) (by simp; omega) (by have := HQ2.out.old.size; simp; omega)).mono ?_
      rintro e w8 ⟨rfl, h3, hw3⟩
      rw [nats_append] at hw3
      have HF := Hid.mk (FinT.of HQ2.out hw3)
      clear hw3 HQ2
      obtain ⟨xa, na, ca, hh2⟩ : ∃ xa na ca, h2 = .slice xa na ca := by
        obtain ⟨a, c, h⟩ := HF.out.t1.own.isBytes.shape
        exact ⟨a, _, c, h⟩
      obtain ⟨xb, nb, cb, hh3⟩ : ∃ xb nb cb, h3 = .slice xb nb cb := by
        obtain ⟨a, c, h⟩ := HF.out.t2.own.isBytes.shape
        exact ⟨a, _, c, h⟩
      subst hh2 hh3
      generalize w3.heap.size = d1 at *
      generalize w6.heap.size = d2 at *
      generalize wc.heap.size = g at *
      have hsz : (D ++ S).size = D.size + S.size := by simp
      rw [hsz]
      clear hsz
      obtain ⟨kk, hkk⟩ : ∃ kk : Nat, (min ((D.size : Int) + (S.size : Int)) 100).toNat = kk := ⟨_, rfl⟩
      have hZ : (nats D ++ nats S).length = D.size + S.size := by rw [List.length_append, nats_length, nats_length]
      have HWant := Hid.mk (HF.out.all.first kk (by rw [hZ]; omega))
      have hN1 : w8.cell? ⟨d1, 1, none⟩ = some (.int .i64 ((D.size : Int) + (S.size : Int))) := by
        have := HF.out.t1.cnt
        rw [hZ] at this
        rw [this]
        congr 2
      have hN2 : w8.cell? ⟨d2, 1, none⟩ = some (.int .i64 ((D.size : Int) + (S.size : Int))) := by
        have := HF.out.t2.cnt
        rw [hZ] at this
        rw [this]
        congr 2
      have HZ := Hid.mk hZ
      clear hZ
      go_wp2_with fail
      refine (head_calls w8 d1 xa na ca HF.out.t1.head).mono ?_
      rintro e w9 ⟨rfl, rfl⟩
      go_wp2_with fail
      refine (equal_calls w9 ((nats D ++ nats S).take 100) (by simp; omega) _ _ HF.out.t1.own.isBytes HWant.out).mono ?_
      rintro e w10 ⟨rfl, q, rfl⟩
      go_wp2_with fail
      refine (head_calls (World.drewN _ q) d2 xb nb cb (by exact HF.out.t2.head)).mono ?_
      rintro e w10 ⟨rfl, rfl⟩
      go_wp2_with fail
      refine (equal_calls (World.drewN _ q) ((nats D ++ nats S).take 100) (by simp; omega) _ _ (by exact HF.out.t2.own.isBytes) (by exact HWant.out)).mono ?_
      rintro e w10 ⟨rfl, q2, rfl⟩
      go_wp2_with fail
      refine (n_calls (World.drewN _ (q + q2)) d1 _ (by exact hN1)).mono ?_
      rintro e w10 ⟨rfl, rfl⟩
      go_wp2_with fail
      refine (n_calls (World.drewN _ (q + q2)) d2 _ (by exact hN2)).mono ?_
      rintro e w10 ⟨rfl, rfl⟩
      go_wp2_with fail
      go_ret
      exact ⟨rfl, HF.out.old.trans (below_drewN_self _ _ _)⟩

end Go.Proofs.Qxb6618498a.Tq
