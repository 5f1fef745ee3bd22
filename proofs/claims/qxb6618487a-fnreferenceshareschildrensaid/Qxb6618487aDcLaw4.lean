/-
  SEAT b6618487a: THE LAW FnReferenceSharesChildren (4), out of the contracts.
-/
import Derived.Test.Qxb6618487aDcLaw3
namespace Go.Proofs.Qxb6618487a.Dc
open Go.RowKit Go.Maps
set_option linter.unusedVariables false

theorem RNode.kids {w : World} {B r m : Nat} {what : ByteArray} (h : RNode w B r what m) : w.cell? ⟨r, 2, none⟩ = some (.map (some m)) := by
  obtain ⟨g, h1, _⟩ := h
  exact h1.c2

set_option maxRecDepth 100000 in
set_option maxHeartbeats 1000000 in
theorem law4_long (w : World) (s0 s1 : ByteArray) (v2 v3 : Value) (ats ks : List ByteArray) (h : Args w s0 s1 v2 v3 ats ks)
    (hl : ¬ (s0.size ≤ 65536 ∧ s1.size ≤ 65536 ∧ ats.length ≤ 65536 ∧ ks.length ≤ 65536)) :
    Calls Try.prog 4 #[.string s0, .string s1, v2, v3] w fun e w' => e = .returned (.bool true) ∧ Below w.heap.size w w' := by
  have HZ := zz19_calls w s0 s1 h.z0 h.z1 ats ks v2 v3 h.an h.kn h.az h.kz h.a h.k
  have HH : Hid (Calls Try.prog 19 #[.string s0, .string s1, v2, v3] w fun e w' => SomeBool e ∧ w' = w) := HZ
  clear HZ
  obtain ⟨x2, c2, rfl⟩ := h.a.shape
  obtain ⟨x3, c3, rfl⟩ := h.k.shape
  have z0 := h.z0
  have z1 := h.z1
  have an := h.an
  have kn := h.kn
  unfold maxLen at z0 z1 an kn
  clear h
  generalize ats.length = n2 at *
  generalize ks.length = n3 at *
  go_enter Try.func4, Try.ntmps4
  go_wp2_with fail
  refine HH.out.mono ?_
  rintro e w' ⟨⟨r, rfl⟩, rfl⟩
  cases r
  · go_wp2_with fail
    go_ret
    exact ⟨rfl, Below.refl _ _⟩
  · go_wp2_with fail
    all_goals first
      | (go_ret; exact ⟨rfl, Below.refl _ _⟩)
      | (exfalso; omega)

set_option maxRecDepth 100000 in
set_option maxHeartbeats 4000000 in
theorem law4_main (w : World) (s0 s1 : ByteArray) (v2 v3 : Value) (ats ks : List ByteArray) (h : Args w s0 s1 v2 v3 ats ks)
    (l0 : s0.size ≤ 65536) (l1 : s1.size ≤ 65536) (l2 : ats.length ≤ 65536) (l3 : ks.length ≤ 65536) :
    Calls Try.prog 4 #[.string s0, .string s1, v2, v3] w fun e w' => e = .returned (.bool true) ∧ Below w.heap.size w w' := by
  have HA : Hid (Args w s0 s1 v2 v3 ats ks) := h
  obtain ⟨x2, c2, hx2⟩ := h.a.shape
  obtain ⟨x3, c3, hx3⟩ := h.k.shape
  clear h
  subst hx2 hx3
  have t0 : ¬ (65536 : Int) < (s0.size : Int) := by omega
  have t1 : ¬ (65536 : Int) < (s1.size : Int) := by omega
  have t2 : ¬ (65536 : Int) < (ats.length : Int) := by omega
  have t3 : ¬ (65536 : Int) < (ks.length : Int) := by omega
  go_enter Try.func4, Try.ntmps4
  go_wp2_with fail
  refine (zz19_calls w s0 s1 HA.out.z0 HA.out.z1 ats ks _ _ HA.out.an HA.out.kn HA.out.az HA.out.kz HA.out.a HA.out.k).mono ?_
  rintro e w' ⟨⟨r, rfl⟩, rfl⟩
  cases r
  · go_wp2_with fail
    go_ret
    exact ⟨rfl, Below.refl _ _⟩
  go_wp2_with fail
  refine (add_calls _ ((s0.size : Int) + (s1.size : Int)) (by omega) (by omega) ats l2 HA.out.az _ HA.out.a).mono ?_
  rintro e w' ⟨⟨t, ht0, rfl⟩, rfl⟩
  by_cases ht : t ≤ 1048576
  · have hti : ¬ (1048576 : Int) < t := by omega
    go_wp2_with fail
    refine (add_calls _ t ht0 ht ks l3 HA.out.kz _ HA.out.k).mono ?_
    rintro e w' ⟨⟨u, hu0, rfl⟩, rfl⟩
    by_cases hu : u ≤ 1048576
    · have hui : ¬ (1048576 : Int) < u := by omega
      go_wp2_with fail
      clear t0 t1 t2 t3 hti hui hu hu0 ht ht0
      refine (clone_calls _ ats l2 _ HA.out.a).mono ?_
      rintro e w1 ⟨A, rfl, hA⟩
      have HCA : Hid (Cloned _ w1 A ats) := hA
      clear hA
      go_wp2_with fail
      refine (clone_calls _ ks l3 _ (HA.out.k.kept HCA.out.2 (fun _ _ h => h))).mono ?_
      rintro e w2 ⟨K, rfl, hK⟩
      have HCK : Hid (Cloned w1 w2 K ks) := hK
      clear hK
      go_wp2_with fail
      refine (clone_calls _ ats l2 _ ((ownsRow_strs HCA.out.1).kept HCK.out.2 (fun _ _ h => h))).mono ?_
      rintro e w3 ⟨W, rfl, hW⟩
      have HCW : Hid (Cloned w2 w3 W ats) := hW
      clear hW
      go_wp2_with fail
      refine (fill_calls _ ks l3 HA.out.kz _ ((ownsRow_strs HCK.out.1).kept HCW.out.2 (fun _ _ h => h))).mono ?_
      rintro e w4 ⟨rfl, f, sz, hF⟩
      have HF : Hid (Fill w3 w4 w3.heap.size ks ks.length f sz) := hF
      clear hF
      have hlen := fun ty => HF.out.keep.len ty
      have HO : Hid (w4.ownsRow w'.heap.size 9 1 A ats.length (ats.map Value.string) ∧ ∀ k, A.ownBlock = some k → w'.heap.size ≤ k ∧ k < w1.heap.size) := owned_later HCA.out HCK.out HCW.out HF.out
      have HE : Hid (Env w4 w1.heap.size w3.heap.size w4.heap.size K W ats ks f sz) := Env.of HCK.out HCW.out HF.out
      have HM : Hid (IsM w4 w3.heap.size f sz) := HF.out.m
      have HL : Hid (∀ s ∈ ks, (f s).isSome = true) := fill_all HF.out
      have HB : Hid (Below w'.heap.size w' w4 ∧ w'.heap.size ≤ w1.heap.size ∧ w1.heap.size ≤ w3.heap.size ∧ w3.heap.size ≤ w4.heap.size) := by
        have s1 := HCA.out.2.size
        have s2 := HCK.out.2.size
        have s3 := HCW.out.2.size
        have s4 := HF.out.old.size
        exact ⟨(((HCA.out.2.below (Nat.le_refl _) (fun _ h => h.elim)).trans (HCK.out.2.below s1 (fun _ h => h.elim))).trans (HCW.out.2.below (by omega) (fun _ h => h.elim))).trans (HF.out.old.below (by omega) (fun _ h => h.elim)), by omega, by omega, by omega⟩
      have hsz : sz ≤ 65536 := by have := HF.out.size; omega
      have hm0 : 0 ≤ miss f := by rw [miss_is]; omega
      have hm2 : miss f ≤ 2 := by have := missN_le f; rw [miss_is]; omega
      go_wp2_with fail
      refine (miss_calls w4 _ sz f HE.out.keep).mono ?_
      rintro e w5 ⟨rfl, rfl⟩
      clear hlen HCA HCK HCW HF
      go_wp2_with fail
      refine (reference_calls w5 s0 w3.heap.size).mono ?_
      rintro e w6 ⟨r, rfl, hR, hK6⟩
      have HR : Hid (RNode w6 w5.heap.size r s0 w3.heap.size) := hR
      have HK6 : Hid (Kept (fun _ => False) w5 w6) := hK6
      clear hR hK6
      have HE6 : Hid (Env w6 w1.heap.size w3.heap.size w5.heap.size K W ats ks f sz) := HE.out.kept HK6.out (fun _ h => h.elim)
      have HM6 : Hid (IsM w6 w3.heap.size f sz) := HM.out.kept HK6.out (fun h => h)
      have hl6 := fun ty => HM6.out.len ty
      go_wp2_with fail
      refine (children_calls w6 r (some w3.heap.size) HR.out.kids).mono ?_
      rintro e w7 ⟨rfl, rfl⟩
      go_wp2_with fail
      refine (referenceOK_calls w7 _ r s0 w3.heap.size HR.out).mono ?_
      rintro e w6 ⟨rfl, rfl⟩
      go_wp2_with fail
      refine (kept_calls w6 w3.heap.size sz f HM6.out (w3.heap.size + 1) sz f HE6.out.keep ks l3 HA.out.kz K HE6.out.keys false (fun s hs => (by
        obtain ⟨B, hB⟩ := Option.isSome_iff_exists.1 (HL.out s hs)
        exact .inr ⟨B, hB, hB⟩))).mono ?_
      rintro e w7 ⟨rfl, rfl⟩
      go_wp2_with fail
      have HX : Hid (w7.ownsRow w'.heap.size 9 1 A ats.length (ats.map Value.string) ∧ w'.heap.size ≤ w7.heap.size ∧ A.ownBlock ≠ some w3.heap.size) := by
        refine ⟨ownsRow_kept HO.out.1 HK6.out (fun _ _ h => h), ?_, fun e => ?_⟩
        · have := HK6.out.size
          have := HB.out
          omega
        · have := HO.out.2 _ e
          have := HB.out
          omega
      clear hl6
      refine (declared_calls w7 w'.heap.size s1 A ats w3.heap.size f sz HX.out.1 (by omega) HX.out.2.1 HM6.out (by omega) HX.out.2.2).mono ?_
      rintro e w8 ⟨d, rfl, v, S, L, hD⟩
      have HD : Hid (Decl w7 w8 w'.heap.size s1 A ats w3.heap.size f sz d v S L) := hD
      clear hD
      have HE8 : Hid (Env w8 w1.heap.size w3.heap.size w5.heap.size K W ats ks f sz) := HE6.out.kept HD.out.old (fun k e => by
        rcases e with e | e
        · exact .inl e
        · exact .inr (.inl (HO.out.2 k e).2))
      have HR8 : Hid (RNode w8 w5.heap.size r s0 w3.heap.size) := HR.out.kept HD.out.old (fun k e => by
        rcases e with e | e
        · exact .inl (fun o => by rw [e]; exact HM6.out.noCell o)
        · have := HO.out.2 k e
          have := HB.out
          exact .inr (by omega))
      have HB8 : Hid (Below w'.heap.size w' w8) := by
        have hb := HB.out
        have h6 := HK6.out.size
        exact (hb.1.trans (HK6.out.below (by omega) (fun _ h => h.elim))).trans (HD.out.old.below (by omega) (fun k e => by
          rcases e with e | e
          · omega
          · exact (HO.out.2 k e).1))
      go_wp2_with fail
      refine (referenceOK_calls w8 _ r s0 w3.heap.size HR8.out).mono ?_
      rintro e w9 ⟨rfl, rfl⟩
      go_wp2_with fail
      refine (declaredOK_calls w9 d s1 v (some w3.heap.size) ats l2 1 (by omega) (by omega) W HD.out.node (by simpa using ownsRow_strs HD.out.attrs) HE8.out.want).mono ?_
      rintro e w10 ⟨rfl, q, rfl⟩
      go_wp2_with fail
      refine (children_calls (World.drewN _ q) r (some w3.heap.size) (by exact HR8.out.kids)).mono ?_
      rintro e w10 ⟨rfl, rfl⟩
      go_wp2_with fail
      refine (describedOK_at (World.drewN _ q) w3.heap.size f (sz + missN f) S L (HD.out.map.drewN q) (HD.out.short.drewN q) (HD.out.long.drewN q) _ _ _ _ K W ats ks (HE8.out.drewN q) l3 HA.out.kz HL.out _ (by rw [miss_is]; omega)).mono ?_
      rintro e w10 ⟨rfl, rfl⟩
      go_wp2_with fail
      refine (describedOK_at (World.drewN _ q) w3.heap.size f (sz + missN f) S L (HD.out.map.drewN q) (HD.out.short.drewN q) (HD.out.long.drewN q) _ _ _ _ K W ats ks (HE8.out.drewN q) l3 HA.out.kz HL.out _ (by rw [miss_is]; omega)).mono ?_
      rintro e w10 ⟨rfl, rfl⟩
      go_wp2_with fail
      go_ret
      exact ⟨rfl, HB8.out.trans (below_drewN_self _ _ _)⟩
    · have hui : (1048576 : Int) < u := by omega
      go_wp2_with fail
      go_ret
      exact ⟨rfl, Below.refl _ _⟩
  · have hti : (1048576 : Int) < t := by omega
    go_wp2_with fail
    go_ret
    exact ⟨rfl, Below.refl _ _⟩

theorem law4 (w : World) (s0 s1 : ByteArray) (v2 v3 : Value) (ats ks : List ByteArray) (h : Args w s0 s1 v2 v3 ats ks) :
    Calls Try.prog 4 #[.string s0, .string s1, v2, v3] w fun e w' => e = .returned (.bool true) ∧ Below w.heap.size w w' := by
  by_cases hl : s0.size ≤ 65536 ∧ s1.size ≤ 65536 ∧ ats.length ≤ 65536 ∧ ks.length ≤ 65536
  · exact law4_main w s0 s1 v2 v3 ats ks h hl.1 hl.2.1 hl.2.2.1 hl.2.2.2
  · exact law4_long w s0 s1 v2 v3 ats ks h hl

end Go.Proofs.Qxb6618487a.Dc
