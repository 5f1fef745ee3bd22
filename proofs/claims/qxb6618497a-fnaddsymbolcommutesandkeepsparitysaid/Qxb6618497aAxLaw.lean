/-
  SEAT b6618497a: THE LAW FnAddSymbolCommutesAndKeepsParity (6).
-/
import Derived.Test.Qxb6618497aAxMake
import Derived.Deep.Cut
import Derived.Laws.BitsAllLaws
namespace Go.Proofs.Qxb6618497a.Ax
open Go.RowKit
set_option linter.unusedVariables false

set_option maxRecDepth 100000 in
theorem zz_yes (w : World) (a b : Option Addr) (n m c d : Nat) (h : n + m ≤ 1048576) : Calls Try.prog 12 #[.slice a n c, .slice b m d] w fun e w' => e = .returned (.bool true) ∧ w' = w := by
  have h1 : ¬ (1048576 : Int) < (n : Int) := by omega
  have h2 : ¬ (1048576 : Int) < (m : Int) := by omega
  have h3 : ¬ (1048576 : Int) < (n : Int) + (m : Int) := by omega
  go_enter Try.func12, Try.ntmps12
  go_wp2
  go_ret
  exact ⟨rfl, rfl⟩

set_option maxRecDepth 100000 in
theorem zz_no (w : World) (a b : Option Addr) (n m c d : Nat) (hn : n ≤ maxLen) (hm : m ≤ maxLen) (h : ¬ n + m ≤ 1048576) : Calls Try.prog 12 #[.slice a n c, .slice b m d] w fun e w' => e = .returned (.bool false) ∧ w' = w := by
  unfold maxLen at hn hm
  go_enter Try.func12, Try.ntmps12
  go_wp2
  all_goals first
    | (go_ret; exact ⟨rfl, rfl⟩)
    | (exfalso; omega)

/-- What stands once the arguments have been copied. -/
def Copied (w wr : World) (v : Value) (X : List Nat) : Prop := Owns wr w.heap.size v X ∧ Kept (fun _ => False) w wr

/-- The make and the copy, as one step of the world. -/
theorem copied_of {w w1 w2 : World} {X : List Nat} {g : Nat} (hg : w.grownBy w1 none) (hO : Owns w2 w.heap.size (.slice (some ⟨g, 0, none⟩) X.length X.length) X) (hK : Kept (fun k => k = g) w1 w2) (hlt : g = w.heap.size) :
    Copied w w2 (.slice (some ⟨g, 0, none⟩) X.length X.length) X :=
  ⟨hO, ((Kept.of_grown hg).trans hK).mono (fun k hk e => by
    rcases e with e | e
    · cases e
    · omega)⟩

theorem IsBytes.at_ {w : World} {x : Option Addr} {n c : Nat} {X : List Nat} (h : IsBytes w (.slice x n c) X) {i : Nat} (hi : i < X.length) : ∃ b off, x = some ⟨b, off, none⟩ ∧ w.cell? ⟨b, off + i, none⟩ = some (bv (X.getD i 0)) := by
  rcases h with ⟨rfl, _⟩ | ⟨b, off, c', e, hc⟩
  · simp at hi
  · exact ⟨b, off, (Value.slice.inj e).1, hc i hi⟩

theorem below_drewN_self (w : World) (B n : Nat) : Below B w (w.drewN n) := ⟨rfl, rfl, rfl, Nat.le_refl _, fun _ _ => rfl⟩

theorem xor_small {a b : Nat} (ha : a < 256) (hb : b < 256) : a ^^^ b < 256 := Nat.xor_lt_two_pow (n := 8) ha hb
theorem xor_four (p q x y : Nat) : (p ^^^ q) ^^^ (x ^^^ y) = (p ^^^ x) ^^^ (q ^^^ y) := by
  rw [Nat.xor_assoc, Nat.xor_assoc, ← Nat.xor_assoc q x y, Nat.xor_comm q x, Nat.xor_assoc]
theorem bits_xor (a b : Nat) (ha : a < 256) (hb : b < 256) : bits .xor .u8 (a : Int) (b : Int) = ((a ^^^ b : Nat) : Int) := u8_xor_nat a b ha hb
theorem val_xor {a b c : Nat} (ha : a < 256) (hb : b < 256) (h : a ^^^ b = c) : Value.int .u8 (bits .xor .u8 (a : Int) (b : Int)) = .int .u8 (c : Int) := by
  rw [bits_xor a b ha hb, h]

/-- Both copies. -/
structure Both (w wb : World) (v0 v1 : Value) (D S : List Nat) : Prop where
  d : Owns wb w.heap.size v0 D
  s : Owns wb w.heap.size v1 S
  old : Kept (fun _ => False) w wb
  apart : ∀ k, v0.ownBlock = some k → v1.ownBlock ≠ some k

theorem Both.of {w wa wb : World} {v0 v1 : Value} {D S : List Nat} (h0 : Copied w wa v0 D) (h1 : Copied wa wb v1 S) : Both w wb v0 v1 D S := by
  have s0 := h0.2.size
  refine ⟨h0.1.kept h1.2 (fun _ _ h => h), h1.1.mono s0, (h0.2.trans h1.2).mono (fun _ _ e => e.elim id id), fun k hk e => ?_⟩
  have := h0.1.lt k hk
  have := h1.1.lt k e
  omega

/-- All four slices, once both sums are made. -/
structure Fin4 (w wz : World) (va vb v0 v1 : Value) (D S : List Nat) : Prop where
  a : IsBytes wz va (xr D S)
  b : IsBytes wz vb (xr S D)
  d : IsBytes wz v0 D
  s : IsBytes wz v1 S
  old : Below w.heap.size w wz

theorem Fin4.of {w w2 w3 w4 w5 w6 : World} {va vb v0 v1 : Value} {D S : List Nat} (hB : Both w w2 v0 v1 D S) (h3 : Cloned w2 w3 va D) (h4 : Added w3 w4 w.heap.size va D S) (h5 : Cloned w4 w5 vb S) (h6 : Added w5 w6 w.heap.size vb S D) :
    Fin4 w w6 va vb v0 v1 D S := by
  have s2 := hB.old.size
  have s3 := h3.2.size
  have s4 := h4.2.size
  have s5 := h5.2.size
  have la := h3.1.lt
  have lb := h5.1.lt
  have l0 := hB.d.lt
  have l1 := hB.s.lt
  have n4 : ∀ k, k < w2.heap.size → ¬ va.ownBlock = some k := fun k hk e => by have := la k e; omega
  have n6 : ∀ k, k < w4.heap.size → ¬ vb.ownBlock = some k := fun k hk e => by have := lb k e; omega
  have d4 := ((hB.d.isBytes.kept h3.2 (fun _ _ h => h)).kept h4.2 (fun k hk => n4 k (l0 k hk).2))
  have e4 := ((hB.s.isBytes.kept h3.2 (fun _ _ h => h)).kept h4.2 (fun k hk => n4 k (l1 k hk).2))
  refine ⟨(h4.1.isBytes.kept h5.2 (fun _ _ h => h)).kept h6.2 (fun k hk => n6 k ?_), h6.1.isBytes, (d4.kept h5.2 (fun _ _ h => h)).kept h6.2 (fun k hk => n6 k ?_), (e4.kept h5.2 (fun _ _ h => h)).kept h6.2 (fun k hk => n6 k ?_), ?_⟩
  · have := la k hk; omega
  · have := l0 k hk; omega
  · have := l1 k hk; omega
  · exact ((((hB.old.below (Nat.le_refl _) (fun _ h => h.elim)).trans (h3.2.below s2 (fun _ h => h.elim))).trans (h4.2.below (by omega) (fun k hk => (by have := la k hk; omega)))).trans (h5.2.below (by omega) (fun _ h => h.elim))).trans
      (h6.2.below (by omega) (fun k hk => (by have := lb k hk; omega)))

set_option maxRecDepth 100000 in
set_option maxHeartbeats 4000000 in
theorem law_main (w : World) (a0 a1 : Option Addr) (c0 c1 : Nat) (D S : List Nat) (hD : IsBytes w (.slice a0 D.length c0) D) (hS : IsBytes w (.slice a1 S.length c1) S) (hd : D.length ≤ 524288) (hs : S.length ≤ 524288)
    (hn0 : a0 = none → D = [] ∧ c0 = 0) (hn1 : a1 = none → S = [] ∧ c1 = 0) (HBD : Hid (∀ i, i < D.length → D.getD i 0 < 256)) (HBS : Hid (∀ i, i < S.length → S.getD i 0 < 256)) :
    Calls Try.prog 6 #[.slice a0 D.length c0, .slice a1 S.length c1] w fun e w' => e = .returned (.bool true) ∧ Below w.heap.size w w' := by
  have HD : Hid (IsBytes w (.slice a0 D.length c0) D) := hD
  have HS : Hid (IsBytes w (.slice a1 S.length c1) S) := hS
  have HN0 : Hid (a0 = none → D = [] ∧ c0 = 0) := hn0
  have HN1 : Hid (a1 = none → S = [] ∧ c1 = 0) := hn1
  clear hD hS hn0 hn1
  have t0 : ¬ (524288 : Int) < (D.length : Int) := by omega
  have t1 : ¬ (524288 : Int) < (S.length : Int) := by omega
  obtain ⟨i0, hi, hz0, hz1, hz2⟩ := info_parts info5
  have HI : Hid (Try.prog.info? 5 = some i0 ∧ i0.zero = some (.int .u8 0) ∧ i0.size = 1 ∧ i0.bytes = 1) := ⟨hi, hz0, hz1, hz2⟩
  clear hi hz0 hz1 hz2
  have hq := neq_nil
  go_enter Try.func6, Try.ntmps6
  go_wp2_with fail
  refine (zz_yes w a0 a1 D.length S.length c0 c1 (by omega)).mono ?_
  rintro e w' ⟨rfl, rfl⟩
  go_upto_if 27 with (fail)
  go_cut [0] from 16 (fun s wc => ∃ x c, s = .slice x D.length c ∧ Hid (Copied w' wc (.slice x D.length c) D))
  case first =>
    cases a0 with
    | none =>
      obtain ⟨h1, h2⟩ := HN0.out rfl
      subst h1 h2
      go_wp2
      go_meet
      case rel => exact ⟨none, 0, rfl, Owns_nil _ _, Kept.refl _ _⟩
    | some x =>
      go_wp2_with (at_make; refine wpList_make_full _ rfl _ _ 29 rfl w'.heap.size 5 i0 (.int .u8 0) 1 Try.underlying29 HI.out.1 HI.out.2.1 HI.out.2.2.1 _ _ _ _ D.length rfl rfl rfl rfl (by rw [HI.out.2.2.2]; omega) (by unfold maxLen; omega) (Nat.le_refl _) ?_; intro w1 hown hgrow; obtain ⟨w2, hr, hO, hK⟩ := run_copy_made w1 w'.heap.size w'.heap.size _ _ D hown (HD.out.kept (Kept.of_grown hgrow) (fun _ _ e => by cases e)); have HC : Hid (Copied w' w2 (.slice (some ⟨w'.heap.size, 0, none⟩) D.length D.length) D) := copied_of hgrow hO hK rfl; clear hown hgrow hO hK)
      go_meet
      case rel => exact ⟨_, _, rfl, HC⟩
  case rest =>
    obtain ⟨x0, k0, rfl, HC0⟩ := hcut
    go_upto_if 36 with (fail)
    go_cut [1] from 16 (fun s w2 => ∃ x c, s = .slice x S.length c ∧ Hid (Copied wc w2 (.slice x S.length c) S))
    case first =>
      cases a1 with
      | none =>
        obtain ⟨h1, h2⟩ := HN1.out rfl
        subst h1 h2
        go_wp2
        go_meet
        case rel => exact ⟨none, 0, rfl, Owns_nil _ _, Kept.refl _ _⟩
      | some x =>
        go_wp2_with (at_make; refine wpList_make_full _ rfl _ _ 29 rfl wc.heap.size 5 i0 (.int .u8 0) 1 Try.underlying29 HI.out.1 HI.out.2.1 HI.out.2.2.1 _ _ _ _ S.length rfl rfl rfl rfl (by rw [HI.out.2.2.2]; omega) (by unfold maxLen; omega) (Nat.le_refl _) ?_; intro w1 hown hgrow; obtain ⟨w2, hr, hO, hK⟩ := run_copy_made w1 wc.heap.size wc.heap.size _ _ S hown ((HS.out.kept HC0.out.2 (fun _ _ h => h)).kept (Kept.of_grown hgrow) (fun _ _ e => by cases e)); have HC : Hid (Copied wc w2 (.slice (some ⟨wc.heap.size, 0, none⟩) S.length S.length) S) := copied_of hgrow hO hK rfl; clear hown hgrow hO hK)
        go_meet
        case rel => exact ⟨_, _, rfl, HC⟩
    case rest =>
      obtain ⟨x1, k1, rfl, HC1⟩ := hcut
      have HB : Hid (Both w' wc (.slice x0 D.length k0) (.slice x1 S.length k1) D S) := Both.of HC0.out HC1.out
      clear HC0 HC1 HD HS HN0 HN1 HI
      go_upto_if 49 with (fail)
      go_cut [7] from 16 (fun n w2 => n = .int .i64 ((min D.length S.length : Nat) : Int) ∧ wc = w2)
      case first =>
        by_cases hlt : S.length < D.length
        · go_wp2
          go_meet
          case rel => exact ⟨by rw [Nat.min_eq_right (by omega)], rfl⟩
        · go_wp2
          go_meet
          case rel => exact ⟨by rw [Nat.min_eq_left (by omega)], rfl⟩
      case rest =>
        obtain ⟨rfl, rfl⟩ := hcut
        obtain ⟨n, hn⟩ : ∃ n, n = min D.length S.length := ⟨_, rfl⟩
        rw [← hn]
        have HN : Hid (n = min D.length S.length) := hn
        have hnd : n ≤ D.length := by omega
        have hns : n ≤ S.length := by omega
        clear hn t0 t1 hq
        go_wp2_with fail
        refine (clone_calls wc D hd _ HB.out.d.isBytes).mono ?_
        rintro e w3 ⟨va, rfl, h3⟩
        have H3 : Hid (Cloned wc w3 va D) := h3
        clear h3
        go_wp2_with fail
        refine (add_calls w3 w'.heap.size va (.slice x1 S.length k1) D S (H3.out.1.mono HB.out.old.size) (HB.out.s.kept H3.out.2 (fun _ _ h => h)) (fun k hk e => ?_) hd hs).mono ?_
        · have := H3.out.1.lt k hk
          have := HB.out.s.lt k e
          omega
        rintro e w4 ⟨rfl, h4⟩
        have H4 : Hid (Added w3 w4 w'.heap.size va D S) := h4
        clear h4
        go_wp2_with fail
        refine (clone_calls w4 S hs _ ((HB.out.s.isBytes.kept H3.out.2 (fun _ _ h => h)).kept H4.out.2 (fun k hk e => ?_))).mono ?_
        · have := H3.out.1.lt k e
          have := HB.out.s.lt k hk
          omega
        rintro e w5 ⟨vb, rfl, h5⟩
        have H5 : Hid (Cloned w4 w5 vb S) := h5
        clear h5
        go_wp2_with fail
        refine (add_calls w5 w'.heap.size vb (.slice x0 D.length k0) S D (H5.out.1.mono ?_) (((HB.out.d.kept H3.out.2 (fun _ _ h => h)).kept H4.out.2 (fun k hk e => ?_)).kept H5.out.2 (fun _ _ h => h)) (fun k hk e => ?_) hs hd).mono ?_
        · have := HB.out.old.size
          have := H3.out.2.size
          have := H4.out.2.size
          omega
        · have := H3.out.1.lt k e
          have := HB.out.d.lt k hk
          omega
        · have := H5.out.1.lt k hk
          have := HB.out.d.lt k e
          have := H3.out.2.size
          have := H4.out.2.size
          omega
        rintro e w6 ⟨rfl, h6⟩
        have HF : Hid (Fin4 w' w6 va vb (.slice x0 D.length k0) (.slice x1 S.length k1) D S) := Fin4.of HB.out H3.out H4.out H5.out h6
        obtain ⟨xa, ca, hva⟩ := HF.out.a.shape
        obtain ⟨xb, cb, hvb⟩ := HF.out.b.shape
        rw [xr_length] at hva hvb
        subst hva hvb
        clear h6 H3 H4 H5 HB
        go_wp2_with fail
        go_loopw [10, 11, 12, 13] (fun pa pd ps i wr => ∃ k p q m : Nat, k ≤ n ∧ i = .int .i64 k ∧ p < 256 ∧ q < 256 ∧ pa = .int .u8 ((p ^^^ q : Nat) : Int) ∧ pd = .int .u8 (p : Int) ∧ ps = .int .u8 (q : Int) ∧ wr = w6.drewN m) (fun _ _ _ i _ => n - (intOf i).toNat)
        case atStart => exact ⟨0, 0, 0, 0, Nat.zero_le _, rfl, by omega, by omega, rfl, rfl, rfl, rfl⟩
        case round =>
          obtain ⟨k, p, q, m, hk, rfl, hp, hq, rfl, rfl, rfl, rfl⟩ := hrel
          by_cases hlt : k < n
          · obtain ⟨ba, oa, hxa, fa⟩ := HF.out.a.at_ (i := k) (by rw [xr_length]; omega)
            obtain ⟨bb, ob, hxb, fb⟩ := HF.out.b.at_ (i := k) (by rw [xr_length]; omega)
            obtain ⟨bd, od, hxd, fd⟩ := HF.out.d.at_ (i := k) (by omega)
            obtain ⟨bs, os, hxs, fs⟩ := HF.out.s.at_ (i := k) (by omega)
            rw [xr_lt D S k (by omega) (by omega)] at fa
            rw [xr_lt S D k (by omega) (by omega), Nat.xor_comm] at fb
            have hx := HBD.out k (by omega)
            have hy := HBS.out k (by omega)
            generalize D.getD k 0 = x at fa fb fd hx
            generalize S.getD k 0 = y at fa fb fs hy
            unfold bv at fa fb fd fs
            subst hxa hxb hxd hxs
            have i1 : (k : Int) < (D.length : Int) := by omega
            have i2 : (k : Int) < (S.length : Int) := by omega
            go_wp2
            go_quiet (fail)
            go_wp2
            go_roundw
            case rel => exact ⟨k + 1, p ^^^ x, q ^^^ y, _, by omega, by go_num, xor_small hp hx, xor_small hq hy, val_xor (xor_small hp hq) (xor_small hx hy) (xor_four p q x y), val_xor hp hx rfl, val_xor hq hy rfl, rfl⟩
            case measure => simp [intOf]; omega
          · have hfin := bits_xor p q hp hq
            go_wp2
            go_loopw [14] (fun i wr => ∃ k m : Nat, n ≤ k ∧ k ≤ D.length ∧ i = .int .i64 k ∧ wr = w6.drewN m) (fun i _ => D.length - (intOf i).toNat)
            case atStart => exact ⟨n, m, Nat.le_refl _, hnd, rfl, rfl⟩
            case round =>
              obtain ⟨k2, m2, hk1, hk2, rfl, rfl⟩ := hrel
              by_cases hlt2 : k2 < D.length
              · obtain ⟨ba, oa, hxa, fa⟩ := HF.out.a.at_ (i := k2) (by rw [xr_length]; omega)
                obtain ⟨bd, od, hxd, fd⟩ := HF.out.d.at_ (i := k2) (by omega)
                rw [xr_ge D S k2 hlt2 (by have := HN.out; omega)] at fa
                generalize D.getD k2 0 = x at fa fd
                unfold bv at fa fd
                subst hxa hxd
                have i1 : (k2 : Int) < (D.length : Int) := by omega
                go_wp2
                go_quiet (fail)
                go_wp2
                go_roundw
                case rel => exact ⟨k2 + 1, _, by omega, by omega, by go_num, rfl⟩
                case measure => simp [intOf]; omega
              · go_wp2
                go_loopw [15] (fun i wr => ∃ k m : Nat, n ≤ k ∧ k ≤ S.length ∧ i = .int .i64 k ∧ wr = w6.drewN m) (fun i _ => S.length - (intOf i).toNat)
                case atStart => exact ⟨n, m2, Nat.le_refl _, hns, rfl, rfl⟩
                case round =>
                  obtain ⟨k3, m3, hk3, hk4, rfl, rfl⟩ := hrel
                  by_cases hlt3 : k3 < S.length
                  · obtain ⟨bb, ob, hxb, fb⟩ := HF.out.b.at_ (i := k3) (by rw [xr_length]; omega)
                    obtain ⟨bs, os, hxs, fs⟩ := HF.out.s.at_ (i := k3) (by omega)
                    rw [xr_ge S D k3 hlt3 (by have := HN.out; omega)] at fb
                    generalize S.getD k3 0 = x at fb fs
                    unfold bv at fb fs
                    subst hxb hxs
                    have i1 : (k3 : Int) < (S.length : Int) := by omega
                    go_wp2
                    go_quiet (fail)
                    go_wp2
                    go_roundw
                    case rel => exact ⟨k3 + 1, _, by omega, by omega, by go_num, rfl⟩
                    case measure => simp [intOf]; omega
                  · go_wp2
                    go_ret
                    exact ⟨rfl, HF.out.old.trans (below_drewN_self _ _ _)⟩

end Go.Proofs.Qxb6618497a.Ax
