/-
  SEAT b6618487a: declared (34), ZZdeclared (14), reference (40), ZZreference (20).
-/
import Derived.Test.Qxb6618487aDcDescr
namespace Go.Proofs.Qxb6618487a.Dc
open Go.RowKit Go.Maps

/-- 'append(v, x)' onto a slice of strings of the call's own: the new slice holds one string more; THE OLD ONE READS AS IT DID. -/
theorem run_append_keep (w : World) (ty : TypeId) (base : Nat) (v : Value) (ss : List ByteArray) (hown : w.ownsRow base 9 1 v ss.length (ss.map Value.string)) (hn : ss.length ≤ 70000) (hbase : base ≤ w.heap.size)
    (a : Addr) (c : Nat) (x : ByteArray) (hx : w.cell? a = some (.string x)) :
    ∃ v' w', (Builtin.append_ #[22, 22] ty #[v, .slice (some a) 1 c]).run Try.prog w = .ok v' w' ∧ w'.ownsRow base 9 1 v' (ss ++ [x]).length ((ss ++ [x]).map Value.string) ∧ Kept (fun k => v.ownBlock = some k) w w' ∧
      (v'.ownBlock = v.ownBlock ∨ v'.ownBlock = some w.heap.size) ∧ IsStrs w' v ss := by
  obtain ⟨i0, hi, hz0, hz1, hz2⟩ := info_parts info9
  have hnews : ∀ j u, [Value.string x][j]? = some u → w.cell? (a.add j) = some u := fun j u hj => by
    match j, hj with
    | 0, hj =>
      simp at hj
      subst hj
      have : a.add 0 = a := by unfold Addr.add; split <;> simp_all
      rw [this]
      exact hx
  have h1 : ∀ u ∈ [Value.string x], u.oneCell' = true := fun u hu => by simp at hu; subst hu; rfl
  obtain ⟨v', w', hr, ho, hg, _, hat⟩ := run_append_own_at (P := Try.prog) w base 22 ty 9 i0 (.string ByteArray.empty) 1 16 Try.underlying22 hi hz0 hz1 hz2 rfl (by decide) v ss.length (ss.map Value.string) hown a 1 c [.string x] rfl hnews h1 (by unfold maxLen; omega) (by omega) hbase
  have ho' : w'.ownsRow base 9 1 v' (ss ++ [x]).length ((ss ++ [x]).map Value.string) := by simpa using ho
  refine ⟨v', w', hr, ho', (Kept.of_grown hg).mono (fun k _ e => e.symm), hat, ?_⟩
  rcases hown.2 with ⟨rfl, hn0⟩ | ⟨g, cap, cur, rfl, hbg, hgg, hnc, hcm, hcs, htake⟩
  · exact .inl ⟨List.eq_nil_of_length_eq_zero hn0, none, 0, rfl⟩
  · refine .inr ⟨g, 0, cap, rfl, fun j hj => ?_⟩
    have hj' : (ss.map Value.string)[j]? = some (.string (ss.getD j ByteArray.empty)) := by
      simp [List.getD_eq_getElem?_getD, List.getElem?_eq_getElem hj]
    by_cases hroom : ss.length + 1 ≤ cap
    · have hr2 := run_append_room (P := Try.prog) w 22 ty 9 i0 Try.underlying22 hi g ss.length cap cur hgg a 1 c [.string x] (by rw [hz1]; rfl) hnews h1 hroom (by rw [hz1, hcs]; simp; omega)
      rw [hr] at hr2
      injection hr2 with e1 e2
      have hc := ho.cells (g := g) (by rw [e1]; rfl) j (.string (ss.getD j ByteArray.empty)) (by rw [List.getElem?_append_left (by simpa using hj)]; exact hj')
      have hadd : (⟨g, 0, none⟩ : Addr).add j = ⟨g, 0 + j, none⟩ := by unfold Addr.add; split <;> simp_all
      rw [hadd] at hc
      exact hc
    · have holds : ∀ j u, (ss.map Value.string)[j]? = some u → w.cell? ((⟨g, 0, none⟩ : Addr).add j) = some u := hown.cells (g := g) rfl
      have hr2 := run_append_grow (P := Try.prog) w 22 ty 9 i0 (.string ByteArray.empty) Try.underlying22 hi hz0 ⟨g, 0, none⟩ ss.length cap (ss.map Value.string) (by rw [hz1]; simp) holds a 1 c [.string x] (by rw [hz1]; rfl) hnews (by omega) (by omega) (growslice_fits (by omega) (by rw [hz2]; omega))
      rw [hr] at hr2
      injection hr2 with e1 e2
      have hc := holds j _ hj'
      have hadd : (⟨g, 0, none⟩ : Addr).add j = ⟨g, 0 + j, none⟩ := by unfold Addr.add; split <;> simp_all
      rw [hadd] at hc
      rw [e2]
      exact (Kept.alloc (fun _ => False) w.drew _).cell hc (fun h => h)

theorem ownsRow_kept {w w' : World} {S : Nat → Prop} {base n : Nat} {v : Value} {xs : List Value} (h : w.ownsRow base 9 1 v n xs) (hk : Kept S w w') (hn : ∀ k, v.ownBlock = some k → ¬ S k) : w'.ownsRow base 9 1 v n xs := by
  refine ⟨h.1, ?_⟩
  rcases h.2 with h0 | ⟨g, cap, cur, rfl, hb, hgg, rest⟩
  · exact .inl h0
  · exact .inr ⟨g, cap, cur, rfl, hb, (hk.block g (Array.getElem?_eq_some_iff.1 hgg).1 (hn g rfl)).trans hgg, rest⟩

/-- The append at its operation, for the walk. -/
theorem wp_append {w : World} {ops : Array Oper} {rest : List Oper} {o : Oper} {a : Act} {Q : Exit → Act → World → Prop} (hgd : o.guard = none) (s x : Operand)
    (ho : o.op = .call { callee := .builtin .append, args := #[s, x], argTypes := #[22, 22] }) (v v' : Value) (ad : Addr) (w' : World) (hs : a.eval s = v) (hx : a.eval x = .slice (some ad) 1 1)
    (hr : ∀ ty, (Builtin.append_ #[22, 22] ty #[v, .slice (some ad) 1 1]).run Try.prog w = .ok v' w') (h : wpList Try.prog ops Q rest (a.put o.dst v') w') :
    wpList Try.prog ops Q (o :: rest) a w := by
  refine wpList_plain hgd fun K hK => ?_
  unfold Oper.wp execOp
  simp only [ho, resolve, invoke, builtin, Sem.run_bind, Sem.run_pure, Result.andThen_ok, List.map_toArray, List.map_cons, List.map_nil, hs, hx, hr]
  exact hK _ _ h

/-- What 'declared' leaves: the node d with the attributes v' (those of v and "id") and the children m, described. -/
structure Decl (w w' : World) (base : Nat) (what : ByteArray) (v : Value) (ss : List ByteArray) (m : Nat) (f : ByteArray → Option Nat) (sz d : Nat) (v' : Value) (S L : Nat) : Prop where
  node : Node w' d what v' (some m) false
  attrs : w'.ownsRow base 9 1 v' (ss ++ [idN]).length ((ss ++ [idN]).map Value.string)
  was : IsStrs w' v ss
  map : IsM w' m (desc f S L) (sz + missN f)
  short : DNode w' S shortW
  long : DNode w' L longW
  old : Kept (fun k => k = m ∨ v.ownBlock = some k) w w'
  dnew : w.heap.size ≤ d
  apart : v'.ownBlock ≠ some d
  vnew : v'.ownBlock = v.ownBlock ∨ ∃ k, v'.ownBlock = some k ∧ w.heap.size ≤ k

/-- The node that is laid at last. -/
theorem node_laid (w : World) (what : ByteArray) (v : Value) (ch : Option Nat) : Node (w.alloc (.cells #[.string what, v, .map ch, .bool false, .bool false] 62)) w.heap.size what v ch false := by
  have hb := heap_alloc_new w (.cells #[.string what, v, .map ch, .bool false, .bool false] 62)
  refine ⟨?_, ?_, ?_, ?_, ?_⟩
  · rw [cell_of_row _ _ 0 _ _ _ hb]; rfl
  · rw [cell_of_row _ _ 1 _ _ _ hb]; rfl
  · rw [cell_of_row _ _ 2 _ _ _ hb]; rfl
  · rw [cell_of_row _ _ 3 _ _ _ hb]; rfl
  · rw [cell_of_row _ _ 4 _ _ _ hb]; rfl

theorem one_laid (w : World) (x : ByteArray) : (w.alloc (.cells #[.string x] 9)).cell? ⟨w.heap.size, 0, none⟩ = some (.string x) := by
  rw [cell_of_row _ _ 0 _ _ _ (heap_alloc_new w (.cells #[.string x] 9))]; rfl

/-- The whole, out of the parts. -/
theorem Decl.of {w w1 w2 : World} {base : Nat} {what : ByteArray} {v : Value} {ss : List ByteArray} {m : Nat} {f : ByteArray → Option Nat} {sz : Nat} {v' : Value} {S L : Nat}
    (hm : IsM w m f sz) (hne : v.ownBlock ≠ some m)
    (ho : w1.ownsRow base 9 1 v' (ss ++ [idN]).length ((ss ++ [idN]).map Value.string)) (hk : Kept (fun k => v.ownBlock = some k) (w.alloc (.cells #[.string idN] 9)) w1)
    (hat : v'.ownBlock = v.ownBlock ∨ v'.ownBlock = some (w.heap.size + 1)) (hs : IsStrs w1 v ss) (hD : Descd w1 w2 m f sz S L) :
    Decl w (w2.alloc (.cells #[.string what, v', .map (some m), .bool false, .bool false] 62)) base what v ss m f sz w2.heap.size v' S L := by
  have ha := Kept.alloc (fun _ => False) w2 (.cells #[.string what, v', .map (some m), .bool false, .bool false] 62)
  have hml := hm.lt
  have hno : ∀ k, v'.ownBlock = some k → ¬ k = m := fun k hk e => by
    subst e
    rcases hat with h | h
    · exact hne (h ▸ hk)
    · rw [hk] at h; simp at h; omega
  have s1 : w.heap.size ≤ w1.heap.size := by have := hk.size; simp at this; omega
  have s2 := hD.old.size
  refine ⟨node_laid _ _ _ _, ?_, ?_, hD.m.kept ha (fun h => h), hD.short.kept ha (fun _ _ e => e.elim), hD.long.kept ha (fun _ _ e => e.elim), ?_, by omega, fun e => (by have := (ho.lt _ e).2; omega), ?_⟩
  · exact ownsRow_kept (ownsRow_kept ho hD.old hno) ha (fun _ _ h => h)
  · exact (hs.kept hD.old (fun k hk e => hne (e ▸ hk))).kept ha (fun _ _ h => h)
  · exact ((((Kept.alloc (fun _ => False) w (.cells #[.string idN] 9)).trans hk).trans hD.old).trans ha).mono (fun k _ e => by
      rcases e with ((e | e) | e) | e
      · exact e.elim
      · exact .inr e
      · exact .inl e
      · exact e.elim)
  · rcases hat with h | h
    · exact .inl h
    · exact .inr ⟨_, h, by omega⟩

set_option maxRecDepth 100000 in
set_option maxHeartbeats 1000000 in
theorem declared34 (w : World) (base : Nat) (what : ByteArray) (v : Value) (ss : List ByteArray) (m : Nat) (f : ByteArray → Option Nat) (sz : Nat)
    (hown : w.ownsRow base 9 1 v ss.length (ss.map Value.string)) (hn : ss.length ≤ 70000) (hbase : base ≤ w.heap.size) (hm : IsM w m f sz) (hsz : sz ≤ 70000) (hne : v.ownBlock ≠ some m) :
    Calls Try.prog 34 #[.string what, v, .map (some m)] w fun e w' => ∃ d, e = .returned (.pointer (some ⟨d, 0, none⟩)) ∧ ∃ v' S L, Decl w w' base what v ss m f sz d v' S L := by
  obtain ⟨v', w1, hr0, ho, hk, hat, hs⟩ := run_append_keep (w.alloc (.cells #[.string idN] 9)) 22 base v ss (hown.alloc _) hn (by simp; omega) ⟨w.heap.size, 0, none⟩ 1 idN (one_laid w idN)
  have hm1 : IsM w1 m f sz := (hm.kept (Kept.alloc (fun _ => False) w _) (fun h => h)).kept hk hne
  have HR : Hid (∀ w2 S L, Descd w1 w2 m f sz S L → Decl w (w2.alloc (.cells #[.string what, v', .map (some m), .bool false, .bool false] 62)) base what v ss m f sz w2.heap.size v' S L) := fun w2 S L hD =>
    Decl.of hm hne ho hk (by simpa using hat) hs hD
  have hr : Hid (∀ ty, (Builtin.append_ #[22, 22] ty #[v, .slice (some ⟨w.heap.size, 0, none⟩) 1 1]).run Try.prog (w.alloc (.cells #[.string idN] 9)) = .ok v' w1) := fun _ => hr0
  obtain ⟨g', n', c', hv'⟩ : ∃ g' n' c', v' = .slice (some ⟨g', 0, none⟩) n' c' := by
    rcases ho.2 with ⟨_, h⟩ | ⟨g, cap, cur, h, _⟩
    · simp at h
    · exact ⟨g, _, cap, h⟩
  subst hv'
  clear ho hk hat hs hr0 hown
  unfold idN at hr
  go_enter Try.func34, Try.ntmps34
  go_wp2_with (first | (at_builtin; refine wp_append rfl _ _ rfl v _ ⟨w.heap.size, 0, none⟩ w1 rfl rfl hr.out ?_) | (go_at_call 44; refine (described_calls _ _ _ _ hm1 hsz).mono ?_; rintro e w2 ⟨rfl, S, L, hD⟩))
  go_ret
  exact ⟨_, rfl, _, S, L, HR.out _ _ _ hD⟩

end Go.Proofs.Qxb6618487a.Dc
