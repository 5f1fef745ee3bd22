/-
  SEAT b6618487a: THE LAW FnDeclaredTwiceAddsDescriptionsOnce (3), out of the contracts.
-/
import Derived.Test.Qxb6618487aDcEnv
namespace Go.Proofs.Qxb6618487a.Dc
open Go.RowKit Go.Maps
set_option linter.unusedVariables false

/-- What the law is told of its arguments. -/
structure Args (w : World) (s0 s1 : ByteArray) (v2 v3 : Value) (ats ks : List ByteArray) : Prop where
  z0 : s0.size ≤ maxLen
  z1 : s1.size ≤ maxLen
  a : IsStrs w v2 ats
  an : ats.length ≤ maxLen
  az : ∀ s ∈ ats, s.size ≤ maxLen
  k : IsStrs w v3 ks
  kn : ks.length ≤ maxLen
  kz : ∀ s ∈ ks, s.size ≤ maxLen

theorem below_drewN_self (w : World) (B n : Nat) : Below B w (w.drewN n) := ⟨rfl, rfl, rfl, Nat.le_refl _, fun _ _ => rfl⟩

/-- A node, a map, a description through draws. -/
theorem IsM.drewN {w : World} {b sz : Nat} {f : ByteArray → Option Nat} (h : IsM w b f sz) (n : Nat) : IsM (w.drewN n) b f sz := h.kept (Kept.drewN (fun _ => False) w n) (fun h => h)
theorem DNode.drewN {w : World} {d : Nat} {what : ByteArray} (h : DNode w d what) (n : Nat) : DNode (w.drewN n) d what := h.kept (Kept.drewN (fun _ => False) w n) (fun _ _ e => e.elim)
theorem IsStrs.drewN {w : World} {v : Value} {ss : List ByteArray} (h : IsStrs w v ss) (n : Nat) : IsStrs (w.drewN n) v ss := h.kept (Kept.drewN (fun _ => False) w n) (fun _ _ h => h)
theorem Env.drewN {w : World} {lo h hi : Nat} {K W : Value} {ats ks : List ByteArray} {f : ByteArray → Option Nat} {sz : Nat} (e : Env w lo h hi K W ats ks f sz) (n : Nat) : Env (w.drewN n) lo h hi K W ats ks f sz :=
  e.kept (Kept.drewN (fun _ => False) w n) (fun _ h => h.elim)

/-- The second declaration's state, out of the two 'Decl's. -/
theorem second {w4 w5 w6 : World} {B lo h hi : Nat} {K W A v1 v2 : Value} {s0 s1 : ByteArray} {ats ks : List ByteArray} {f : ByteArray → Option Nat} {sz d1 d2 S1 L1 S2 L2 q : Nat}
    (E : Env w4 lo h hi K W ats ks f sz) (hhi : hi = w4.heap.size) (hA : ∀ k, A.ownBlock = some k → B ≤ k ∧ k < lo) (hBh : B ≤ lo)
    (D1 : Decl w4 w5 B s0 A ats h f sz d1 v1 S1 L1) (D2 : Decl (w5.drewN q) w6 B s1 v1 (ats ++ [idN]) h (desc f S1 L1) (sz + missN f) d2 v2 S2 L2) :
    Env w6 lo h hi K W ats ks f sz ∧ Node w6 d1 s0 v1 (some h) false ∧ IsStrs w6 v1 (ats ++ List.replicate 1 idN) ∧ IsStrs w6 v2 (ats ++ List.replicate 2 idN) ∧ IsM w6 h (desc f S2 L2) (sz + missN f) ∧
      Below B w4 w6 ∧ Node w6 d2 s1 v2 (some h) false ∧ DNode w6 S2 shortW ∧ DNode w6 L2 longW := by
  have hlt := E.lt
  have E5 : Env (w5.drewN q) lo h hi K W ats ks f sz := (E.kept D1.old (fun k e => by
    rcases e with e | e
    · exact .inl e
    · exact .inr (.inl (hA k e).2))).drewN q
  have hv1 : ∀ k, v1.ownBlock = some k → (B ≤ k ∧ k < lo) ∨ hi ≤ k := fun k hk => by
    rcases D1.vnew with e | ⟨g, e, hg⟩
    · exact .inl (hA k (e ▸ hk))
    · rw [hk] at e; cases e; exact .inr (by omega)
  refine ⟨E5.kept D2.old (fun k e => ?_), (D1.node.drewN q).kept D2.old (fun e => ?_), D2.was, ?_, ?_, ?_, D2.node, D2.short, D2.long⟩
  · rcases e with e | e
    · exact .inl e
    · rcases hv1 k e with h | h
      · exact .inr (.inl h.2)
      · exact .inr (.inr h)
  · rcases e with e | e
    · have := D1.dnew; omega
    · exact D1.apart e
  · have := ownsRow_strs D2.attrs
    simpa [List.append_assoc] using this
  · have := D2.map
    rw [desc_desc, missN_desc, Nat.add_zero] at this
    exact this
  · have s4 : B ≤ w4.heap.size := by omega
    have b1 : Below B w4 w5 := D1.old.below s4 (fun k e => by
      rcases e with e | e
      · omega
      · exact (hA k e).1)
    have s5 : B ≤ (w5.drewN q).heap.size := by have := D1.old.size; simp; omega
    exact (b1.trans (below_drewN_self w5 B q)).trans (D2.old.below s5 (fun k e => by
      rcases e with e | e
      · omega
      · rcases hv1 k e with h | h <;> omega))

set_option maxRecDepth 100000 in
set_option maxHeartbeats 1000000 in
theorem law3_long (w : World) (s0 s1 : ByteArray) (v2 v3 : Value) (ats ks : List ByteArray) (h : Args w s0 s1 v2 v3 ats ks)
    (hl : ¬ (s0.size ≤ 65536 ∧ s1.size ≤ 65536 ∧ ats.length ≤ 65536 ∧ ks.length ≤ 65536)) :
    Calls Try.prog 3 #[.string s0, .string s1, v2, v3] w fun e w' => e = .returned (.bool true) ∧ Below w.heap.size w w' := by
  have HZ := zz9_calls w s0 s1 h.z0 h.z1 ats ks v2 v3 h.an h.kn h.az h.kz h.a h.k
  have HH : Hid (Calls Try.prog 9 #[.string s0, .string s1, v2, v3] w fun e w' => SomeBool e ∧ w' = w) := HZ
  clear HZ
  obtain ⟨x2, c2, rfl⟩ := h.a.shape
  obtain ⟨x3, c3, rfl⟩ := h.k.shape
  have z0 := h.z0
  have z1 := h.z1
  have an := h.an
  have kn := h.kn
  unfold maxLen at z0 z1 an kn
  clear h
  generalize ats.length = n2 at *
  generalize ks.length = n3 at *
  go_enter Try.func3, Try.ntmps3
  go_wp2_with fail
  refine HH.out.mono ?_
  rintro e w' ⟨⟨r, rfl⟩, rfl⟩
  cases r
  · go_wp2_with fail
    go_ret
    exact ⟨rfl, Below.refl _ _⟩
  · go_wp2_with fail
    all_goals first
      | (go_ret; exact ⟨rfl, Below.refl _ _⟩)
      | (exfalso; omega)

set_option maxRecDepth 100000 in
set_option maxHeartbeats 4000000 in
theorem law3_main (w : World) (s0 s1 : ByteArray) (v2 v3 : Value) (ats ks : List ByteArray) (h : Args w s0 s1 v2 v3 ats ks)
    (l0 : s0.size ≤ 65536) (l1 : s1.size ≤ 65536) (l2 : ats.length ≤ 65536) (l3 : ks.length ≤ 65536) :
    Calls Try.prog 3 #[.string s0, .string s1, v2, v3] w fun e w' => e = .returned (.bool true) ∧ Below w.heap.size w w' := by
  have HA : Hid (Args w s0 s1 v2 v3 ats ks) := h
  obtain ⟨x2, c2, hx2⟩ := h.a.shape
  obtain ⟨x3, c3, hx3⟩ := h.k.shape
  clear h
  subst hx2 hx3
  have t0 : ¬ (65536 : Int) < (s0.size : Int) := by omega
  have t1 : ¬ (65536 : Int) < (s1.size : Int) := by omega
  have t2 : ¬ (65536 : Int) < (ats.length : Int) := by omega
  have t3 : ¬ (65536 : Int) < (ks.length : Int) := by omega
  go_enter Try.func3, Try.ntmps3
  go_wp2_with fail
  refine (zz9_calls w s0 s1 HA.out.z0 HA.out.z1 ats ks _ _ HA.out.an HA.out.kn HA.out.az HA.out.kz HA.out.a HA.out.k).mono ?_
  rintro e w' ⟨⟨r, rfl⟩, rfl⟩
  cases r
  · go_wp2_with fail
    go_ret
    exact ⟨rfl, Below.refl _ _⟩
  go_wp2_with fail
  refine (add_calls _ ((s0.size : Int) + (s1.size : Int)) (by omega) (by omega) ats l2 HA.out.az _ HA.out.a).mono ?_
  rintro e w' ⟨⟨t, ht0, rfl⟩, rfl⟩
  by_cases ht : t ≤ 1048576
  · have hti : ¬ (1048576 : Int) < t := by omega
    go_wp2_with fail
    refine (add_calls _ t ht0 ht ks l3 HA.out.kz _ HA.out.k).mono ?_
    rintro e w' ⟨⟨u, hu0, rfl⟩, rfl⟩
    by_cases hu : u ≤ 1048576
    · have hui : ¬ (1048576 : Int) < u := by omega
      go_wp2_with fail
      clear t0 t1 t2 t3 hti hui hu hu0 ht ht0
      refine (clone_calls _ ats l2 _ HA.out.a).mono ?_
      rintro e w1 ⟨A, rfl, hA⟩
      have HCA : Hid (Cloned _ w1 A ats) := hA
      clear hA
      go_wp2_with fail
      refine (clone_calls _ ks l3 _ (HA.out.k.kept HCA.out.2 (fun _ _ h => h))).mono ?_
      rintro e w2 ⟨K, rfl, hK⟩
      have HCK : Hid (Cloned w1 w2 K ks) := hK
      clear hK
      go_wp2_with fail
      refine (clone_calls _ ats l2 _ ((ownsRow_strs HCA.out.1).kept HCK.out.2 (fun _ _ h => h))).mono ?_
      rintro e w3 ⟨W, rfl, hW⟩
      have HCW : Hid (Cloned w2 w3 W ats) := hW
      clear hW
      go_wp2_with fail
      refine (fill_calls _ ks l3 HA.out.kz _ ((ownsRow_strs HCK.out.1).kept HCW.out.2 (fun _ _ h => h))).mono ?_
      rintro e w4 ⟨rfl, f, sz, hF⟩
      have HF : Hid (Fill w3 w4 w3.heap.size ks ks.length f sz) := hF
      clear hF
      have hlen := fun ty => HF.out.keep.len ty
      have HO : Hid (w4.ownsRow w'.heap.size 9 1 A ats.length (ats.map Value.string) ∧ ∀ k, A.ownBlock = some k → w'.heap.size ≤ k ∧ k < w1.heap.size) := owned_later HCA.out HCK.out HCW.out HF.out
      have HE : Hid (Env w4 w1.heap.size w3.heap.size w4.heap.size K W ats ks f sz) := Env.of HCK.out HCW.out HF.out
      have HM : Hid (IsM w4 w3.heap.size f sz) := HF.out.m
      have HL : Hid (∀ s ∈ ks, (f s).isSome = true) := fill_all HF.out
      have HB : Hid (Below w'.heap.size w' w4 ∧ w'.heap.size ≤ w1.heap.size ∧ w1.heap.size ≤ w3.heap.size ∧ w3.heap.size ≤ w4.heap.size) := by
        have s1 := HCA.out.2.size
        have s2 := HCK.out.2.size
        have s3 := HCW.out.2.size
        have s4 := HF.out.old.size
        exact ⟨(((HCA.out.2.below (Nat.le_refl _) (fun _ h => h.elim)).trans (HCK.out.2.below s1 (fun _ h => h.elim))).trans (HCW.out.2.below (by omega) (fun _ h => h.elim))).trans (HF.out.old.below (by omega) (fun _ h => h.elim)), by omega, by omega, by omega⟩
      have hsz : sz ≤ 65536 := by have := HF.out.size; omega
      have hm0 : 0 ≤ miss f := by rw [miss_is]; omega
      have hm2 : miss f ≤ 2 := by have := missN_le f; rw [miss_is]; omega
      go_wp2_with fail
      refine (miss_calls w4 _ sz f HE.out.keep).mono ?_
      rintro e w5 ⟨rfl, rfl⟩
      clear hlen HCA HCK HCW HF
      go_wp2_with fail
      refine (declared_calls w5 w'.heap.size s0 A ats w3.heap.size f sz HO.out.1 (by omega) (by have := HB.out; omega) HM.out (by omega) (fun e => (by have := HO.out.2 _ e; have := HB.out; omega))).mono ?_
      rintro e w6 ⟨d1, rfl, v1, S1, L1, hD1⟩
      obtain ⟨a1, n1, c1, hv1⟩ : ∃ a1 n1 c1, v1 = .slice a1 n1 c1 := by
        obtain ⟨a1, c1, h⟩ := (ownsRow_strs hD1.attrs).shape
        exact ⟨a1, _, c1, h⟩
      subst hv1
      have HD1 : Hid (Decl w5 w6 w'.heap.size s0 A ats w3.heap.size f sz d1 (.slice a1 n1 c1) S1 L1) := hD1
      clear hD1
      have HE6 : Hid (Env w6 w1.heap.size w3.heap.size w5.heap.size K W ats ks f sz) := HE.out.kept HD1.out.old (fun k e => by
        rcases e with e | e
        · exact .inl e
        · exact .inr (.inl (HO.out.2 k e).2))
      go_wp2_with fail
      refine (declaredOK_calls w6 d1 s0 (.slice a1 n1 c1) (some w3.heap.size) ats l2 1 (by omega) (by omega) W HD1.out.node (by simpa using ownsRow_strs HD1.out.attrs) HE6.out.want).mono ?_
      rintro e w7 ⟨rfl, q1, rfl⟩
      go_wp2_with fail
      refine (children_calls (World.drewN _ q1) d1 (some w3.heap.size) (by exact HD1.out.node.c2)).mono ?_
      rintro e w8 ⟨rfl, rfl⟩
      go_wp2_with fail
      refine (describedOK_at (World.drewN _ q1) w3.heap.size f (sz + missN f) S1 L1 (HD1.out.map.drewN q1) (HD1.out.short.drewN q1) (HD1.out.long.drewN q1) _ _ _ _ K W ats ks (HE6.out.drewN q1) l3 HA.out.kz HL.out _ (by rw [miss_is]; omega)).mono ?_
      rintro e w8 ⟨rfl, rfl⟩
      go_wp2_with fail
      refine (attrs18_calls (World.drewN _ q1) d1 a1 n1 c1 (by exact HD1.out.node.c1)).mono ?_
      rintro e w8 ⟨rfl, rfl⟩
      go_wp2_with fail
      refine (children_calls (World.drewN _ q1) d1 (some w3.heap.size) (by exact HD1.out.node.c2)).mono ?_
      rintro e w8 ⟨rfl, rfl⟩
      go_wp2_with fail
      have HX : Hid ((w6.drewN q1).ownsRow w'.heap.size 9 1 (.slice a1 n1 c1) (ats ++ [idN]).length ((ats ++ [idN]).map Value.string) ∧ (Value.slice a1 n1 c1).ownBlock ≠ some w3.heap.size ∧ w'.heap.size ≤ (w6.drewN q1).heap.size) := by
        refine ⟨ownsRow_kept HD1.out.attrs (Kept.drewN (fun _ => False) w6 q1) (fun _ _ h => h), fun e => ?_, ?_⟩
        · have hb := HB.out
          rcases HD1.out.vnew with h | ⟨g, h, hg⟩
          · have := HO.out.2 _ (h ▸ e)
            omega
          · rw [e] at h
            have h' := Option.some.inj h
            have := HE.out.lt
            omega
        · have := HD1.out.old.size
          have := HB.out
          show w'.heap.size ≤ w6.heap.size
          omega
      refine (declared_calls (World.drewN _ q1) w'.heap.size s1 (.slice a1 n1 c1) (ats ++ [idN]) w3.heap.size (desc f S1 L1) (sz + missN f) HX.out.1 (by simp; omega) HX.out.2.2 (HD1.out.map.drewN q1) (by have := missN_le f; omega) HX.out.2.1).mono ?_
      rintro e w9 ⟨d2, rfl, v2, S2, L2, hD2⟩
      have HS : Hid (Env w9 w1.heap.size w3.heap.size w5.heap.size K W ats ks f sz ∧ Node w9 d1 s0 (.slice a1 n1 c1) (some w3.heap.size) false ∧ IsStrs w9 (.slice a1 n1 c1) (ats ++ List.replicate 1 idN) ∧ IsStrs w9 v2 (ats ++ List.replicate 2 idN) ∧ IsM w9 w3.heap.size (desc f S2 L2) (sz + missN f) ∧
          Below w'.heap.size w5 w9 ∧ Node w9 d2 s1 v2 (some w3.heap.size) false ∧ DNode w9 S2 shortW ∧ DNode w9 L2 longW) :=
        second HE.out rfl HO.out.2 HB.out.2.1 HD1.out hD2
      clear hD2 HX HD1 HE6
      go_wp2_with fail
      refine (declaredOK_calls w9 d2 s1 v2 (some w3.heap.size) ats l2 2 (by omega) (by omega) W HS.out.2.2.2.2.2.2.1 HS.out.2.2.2.1 HS.out.1.want).mono ?_
      rintro e w10 ⟨rfl, q2, rfl⟩
      go_wp2_with fail
      refine (children_calls (World.drewN _ q2) d2 (some w3.heap.size) (by exact HS.out.2.2.2.2.2.2.1.c2)).mono ?_
      rintro e w10 ⟨rfl, rfl⟩
      go_wp2_with fail
      refine (describedOK_at (World.drewN _ q2) w3.heap.size f (sz + missN f) S2 L2 (HS.out.2.2.2.2.1.drewN q2) (HS.out.2.2.2.2.2.2.2.1.drewN q2) (HS.out.2.2.2.2.2.2.2.2.drewN q2) _ _ _ _ K W ats ks (HS.out.1.drewN q2) l3 HA.out.kz HL.out _ (by rw [miss_is]; omega)).mono ?_
      rintro e w10 ⟨rfl, rfl⟩
      go_wp2_with fail
      refine (declaredOK_calls (World.drewN _ q2) d1 s0 (.slice a1 n1 c1) (some w3.heap.size) ats l2 1 (by omega) (by omega) W (HS.out.2.1.drewN q2) (HS.out.2.2.1.drewN q2) (HS.out.1.want.drewN q2)).mono ?_
      rintro e w10 ⟨rfl, q3, rfl⟩
      go_wp2_with fail
      refine (children_calls (World.drewN _ (q2 + q3)) d1 (some w3.heap.size) (by exact HS.out.2.1.c2)).mono ?_
      rintro e w10 ⟨rfl, rfl⟩
      go_wp2_with fail
      refine (describedOK_at (World.drewN _ (q2 + q3)) w3.heap.size f (sz + missN f) S2 L2 (HS.out.2.2.2.2.1.drewN _) (HS.out.2.2.2.2.2.2.2.1.drewN _) (HS.out.2.2.2.2.2.2.2.2.drewN _) _ _ _ _ K W ats ks (HS.out.1.drewN _) l3 HA.out.kz HL.out _ (by rw [miss_is]; omega)).mono ?_
      rintro e w10 ⟨rfl, rfl⟩
      go_wp2_with fail
      refine (describedOK_at (World.drewN _ (q2 + q3)) w3.heap.size f (sz + missN f) S2 L2 (HS.out.2.2.2.2.1.drewN _) (HS.out.2.2.2.2.2.2.2.1.drewN _) (HS.out.2.2.2.2.2.2.2.2.drewN _) _ _ _ _ K W ats ks (HS.out.1.drewN _) l3 HA.out.kz HL.out _ (by rw [miss_is]; omega)).mono ?_
      rintro e w10 ⟨rfl, rfl⟩
      go_wp2_with fail
      go_ret
      exact ⟨rfl, (HB.out.1.trans HS.out.2.2.2.2.2.1).trans (below_drewN_self _ _ _)⟩
    · have hui : (1048576 : Int) < u := by omega
      go_wp2_with fail
      go_ret
      exact ⟨rfl, Below.refl _ _⟩
  · have hti : (1048576 : Int) < t := by omega
    go_wp2_with fail
    go_ret
    exact ⟨rfl, Below.refl _ _⟩

theorem law3 (w : World) (s0 s1 : ByteArray) (v2 v3 : Value) (ats ks : List ByteArray) (h : Args w s0 s1 v2 v3 ats ks) :
    Calls Try.prog 3 #[.string s0, .string s1, v2, v3] w fun e w' => e = .returned (.bool true) ∧ Below w.heap.size w w' := by
  by_cases hl : s0.size ≤ 65536 ∧ s1.size ≤ 65536 ∧ ats.length ≤ 65536 ∧ ks.length ≤ 65536
  · exact law3_main w s0 s1 v2 v3 ats ks h hl.1 hl.2.1 hl.2.2.1 hl.2.2.2
  · exact law3_long w s0 s1 v2 v3 ats ks h hl

end Go.Proofs.Qxb6618487a.Dc
