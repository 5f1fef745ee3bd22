/-
  SEAT b6618487a: ZZdeclared (14), reference (40), ZZreference (20); declaredOK (15), descriptionOK (39), describedOK (16), referenceOK (21).
-/
import Derived.Test.Qxb6618487aDcDecl
namespace Go.Proofs.Qxb6618487a.Dc
open Go.RowKit Go.Maps

theorem declared_calls (w : World) (base : Nat) (what : ByteArray) (v : Value) (ss : List ByteArray) (m : Nat) (f : ByteArray → Option Nat) (sz : Nat)
    (hown : w.ownsRow base 9 1 v ss.length (ss.map Value.string)) (hn : ss.length ≤ 70000) (hbase : base ≤ w.heap.size) (hm : IsM w m f sz) (hsz : sz ≤ 70000) (hne : v.ownBlock ≠ some m) :
    Calls Try.prog 14 #[.string what, v, .map (some m)] w fun e w' => ∃ d, e = .returned (.pointer (some ⟨d, 0, none⟩)) ∧ ∃ v' S L, Decl w w' base what v ss m f sz d v' S L := by
  have H := declared34 w base what v ss m f sz hown hn hbase hm hsz hne
  have HH : Hid (Calls Try.prog 34 #[.string what, v, .map (some m)] w fun e w' => ∃ d, e = .returned (.pointer (some ⟨d, 0, none⟩)) ∧ ∃ v' S L, Decl w w' base what v ss m f sz d v' S L) := H
  clear H hown hn hbase hm hsz hne
  go_enter Try.func14, Try.ntmps14
  go_wp2_with fail
  refine HH.out.mono ?_
  rintro e w' ⟨d, rfl, v', S, L, hD⟩
  go_wp2_with fail
  go_ret
  exact ⟨d, rfl, v', S, L, hD⟩

def refN : ByteArray := ⟨#[114, 101, 102, 105, 100]⟩

/-- BLOCK r IS A REFERENCE's NODE; it lies, with its attribute, from block B on. -/
def RNode (w : World) (B r : Nat) (what : ByteArray) (m : Nat) : Prop := ∃ g, Node w r what (.slice (some ⟨g, 0, none⟩) 1 1) (some m) false ∧ w.cell? ⟨g, 0, none⟩ = some (.string refN) ∧ B ≤ r ∧ B ≤ g

theorem RNode.kept {w w' : World} {B r m : Nat} {what : ByteArray} {S : Nat → Prop} (h : RNode w B r what m) (hk : Kept S w w') (hS : ∀ k, S k → (∀ o, w.cell? ⟨k, o, none⟩ = none) ∨ k < B) : RNode w' B r what m := by
  obtain ⟨g, h1, h2, h3, h4⟩ := h
  refine ⟨g, h1.kept hk (fun e => ?_), hk.cell h2 (fun e => ?_), h3, h4⟩
  · rcases hS _ e with h | h
    · have := h 0; rw [h1.c0] at this; cases this
    · omega
  · rcases hS _ e with h | h
    · have := h 0
      have e2 := h2
      simp only at this
      rw [e2] at this
      cases this
    · simp at h; omega

theorem rnode_laid (w : World) (what : ByteArray) (m : Nat) :
    RNode ((w.alloc (.cells #[.string refN] 9)).alloc (.cells #[.string what, .slice (some ⟨w.heap.size, 0, none⟩) 1 1, .map (some m), .bool false, .bool false] 62)) w.heap.size (w.heap.size + 1) what m := by
  have e : (w.alloc (.cells #[.string refN] 9)).heap.size = w.heap.size + 1 := by simp
  have hb := node_laid (w.alloc (.cells #[.string refN] 9)) what (.slice (some ⟨w.heap.size, 0, none⟩) 1 1) (some m)
  rw [e] at hb
  exact ⟨w.heap.size, hb, (Kept.alloc (fun _ => False) (w.alloc (.cells #[.string refN] 9)) _).cell (one_laid w refN) (fun h => h), by omega, by omega⟩

set_option maxRecDepth 100000 in
theorem reference_calls (w : World) (what : ByteArray) (m : Nat) :
    Calls Try.prog 20 #[.string what, .map (some m)] w fun e w' => ∃ r, e = .returned (.pointer (some ⟨r, 0, none⟩)) ∧ RNode w' w.heap.size r what m ∧ Kept (fun _ => False) w w' := by
  have HR : Hid (RNode ((w.alloc (.cells #[.string refN] 9)).alloc (.cells #[.string what, .slice (some ⟨w.heap.size, 0, none⟩) 1 1, .map (some m), .bool false, .bool false] 62)) w.heap.size (w.heap.size + 1) what m) := rnode_laid w what m
  go_enter Try.func20, Try.ntmps20
  go_wp2
  go_ret
  exact ⟨_, rfl, HR.out, alloc2 _ _ _⟩

/-! ### the readers -/
theorem what_calls (w : World) (d : Nat) (s : ByteArray) (h : w.cell? ⟨d, 0, none⟩ = some (.string s)) : Calls Try.prog 35 #[.pointer (some ⟨d, 0, none⟩)] w fun e w' => e = .returned (.string s) ∧ w' = w := by
  go_enter Try.func35, Try.ntmps35
  go_wp2
  go_ret
  exact ⟨rfl, rfl⟩

theorem attrs18_calls (w : World) (d : Nat) (a : Option Addr) (n c : Nat) (h : w.cell? ⟨d, 1, none⟩ = some (.slice a n c)) : Calls Try.prog 18 #[.pointer (some ⟨d, 0, none⟩)] w fun e w' => e = .returned (.slice a n c) ∧ w' = w := by
  go_enter Try.func18, Try.ntmps18
  go_wp2
  go_ret
  exact ⟨rfl, rfl⟩

theorem children_calls (w : World) (d : Nat) (r : Option Nat) (h : w.cell? ⟨d, 2, none⟩ = some (.map r)) : Calls Try.prog 17 #[.pointer (some ⟨d, 0, none⟩)] w fun e w' => e = .returned (.map r) ∧ w' = w := by
  go_enter Try.func17, Try.ntmps17
  go_wp2
  go_ret
  exact ⟨rfl, rfl⟩

theorem text_calls (w : World) (d : Nat) (b : Bool) (h : w.cell? ⟨d, 3, none⟩ = some (.bool b)) : Calls Try.prog 37 #[.pointer (some ⟨d, 0, none⟩)] w fun e w' => e = .returned (.bool b) ∧ w' = w := by
  go_enter Try.func37, Try.ntmps37
  go_wp2
  go_ret
  exact ⟨rfl, rfl⟩

theorem checked_calls (w : World) (d : Nat) (b : Bool) (h : w.cell? ⟨d, 4, none⟩ = some (.bool b)) : Calls Try.prog 38 #[.pointer (some ⟨d, 0, none⟩)] w fun e w' => e = .returned (.bool b) ∧ w' = w := by
  go_enter Try.func38, Try.ntmps38
  go_wp2
  go_ret
  exact ⟨rfl, rfl⟩

/-! ### the four tests -/
set_option maxRecDepth 100000 in
set_option maxHeartbeats 1000000 in
theorem description_calls (w : World) (d : Nat) (what : ByteArray) (h : DNode w d what) :
    Calls Try.prog 39 #[.pointer (some ⟨d, 0, none⟩), .string what] w fun e w' => e = .returned (.bool true) ∧ w' = w := by
  obtain ⟨g, ⟨c0, c1, c2, c3, c4⟩, hl⟩ := h
  unfold langN at hl
  have hlen := fun ty => Maps.len_nil (P := Try.prog) (w := w) Try.underlying26 ty
  go_enter Try.func39, Try.ntmps39
  go_wp2
  go_ret
  exact ⟨rfl, rfl⟩

set_option maxRecDepth 100000 in
set_option maxHeartbeats 1000000 in
theorem referenceOK_calls (w : World) (B d : Nat) (what : ByteArray) (m : Nat) (h : RNode w B d what m) :
    Calls Try.prog 21 #[.pointer (some ⟨d, 0, none⟩), .string what] w fun e w' => e = .returned (.bool true) ∧ w' = w := by
  obtain ⟨g, ⟨c0, c1, c2, c3, c4⟩, hl, _, _⟩ := h
  unfold refN at hl
  go_enter Try.func21, Try.ntmps21
  go_wp2
  go_ret
  exact ⟨rfl, rfl⟩

theorem IsStrs.shape {w : World} {v : Value} {ss : List ByteArray} (h : IsStrs w v ss) : ∃ a c, v = .slice a ss.length c := by
  rcases h with ⟨rfl, a, c, rfl⟩ | ⟨b, off, c, rfl, _⟩
  · exact ⟨a, c, rfl⟩
  · exact ⟨_, c, rfl⟩

theorem Node.drewN {w : World} {d : Nat} {what : ByteArray} {attrs : Value} {ch : Option Nat} {text : Bool} (h : Node w d what attrs ch text) (n : Nat) : Node (w.drewN n) d what attrs ch text :=
  h.kept (Kept.drewN (fun _ => False) w n) (fun h => h)

set_option maxRecDepth 100000 in
set_option maxHeartbeats 1000000 in
theorem declaredOK_calls (w : World) (d : Nat) (what : ByteArray) (v : Value) (r : Option Nat) (ss : List ByteArray) (hn : ss.length ≤ 65536) (m : Nat) (h1 : 1 ≤ m) (h2 : m ≤ 2) (want : Value)
    (h : Node w d what v r false) (hv : IsStrs w v (ss ++ List.replicate m idN)) (hw : IsStrs w want ss) :
    Calls Try.prog 15 #[.pointer (some ⟨d, 0, none⟩), .string what, want, .int .i64 (m : Int)] w fun e w' => e = .returned (.bool true) ∧ ∃ n, w' = w.drewN n := by
  have HA : Hid (Calls Try.prog 36 #[v, want, .int .i64 (m : Int)] w fun e w' => e = .returned (.bool true) ∧ ∃ n, w' = w.drewN n) := attrs_calls w ss hn m h1 h2 v want hv hw
  obtain ⟨a, c, hsh⟩ := hv.shape
  generalize (ss ++ List.replicate m idN).length = n at hsh
  subst hsh
  obtain ⟨c0, c1, c2, c3, c4⟩ := h
  clear hv hw h1 h2 hn c2
  go_enter Try.func15, Try.ntmps15
  go_wp2_with fail
  refine (what_calls w d what c0).mono ?_
  rintro e w' ⟨rfl, rfl⟩
  go_wp2_with fail
  refine (attrs18_calls _ d a n c c1).mono ?_
  rintro e w' ⟨rfl, rfl⟩
  go_wp2_with fail
  refine HA.out.mono ?_
  rintro e w' ⟨rfl, q, rfl⟩
  go_wp2_with fail
  refine (text_calls (World.drewN _ q) d false (by exact c3)).mono ?_
  rintro e w' ⟨rfl, rfl⟩
  go_wp2_with fail
  refine (checked_calls (World.drewN _ q) d false (by exact c4)).mono ?_
  rintro e w' ⟨rfl, rfl⟩
  go_wp2_with fail
  go_ret
  exact ⟨rfl, q, rfl⟩

set_option maxRecDepth 100000 in
set_option maxHeartbeats 1000000 in
theorem describedOK_calls (w : World) (b : Nat) (f : ByteArray → Option Nat) (sz S L : Nat) (hm : IsM w b (desc f S L) sz) (hS : DNode w S shortW) (hL : DNode w L longW) (b2 sz2 : Nat) (h2 : IsM w b2 f sz2)
    (ss : List ByteArray) (hn : ss.length ≤ 65536) (hs : ∀ s ∈ ss, s.size ≤ maxLen) (v : Value) (hv : IsStrs w v ss) (hall : ∀ s ∈ ss, (f s).isSome = true) :
    Calls Try.prog 16 #[.map (some b), v, .map (some b2), .int .i64 (sz : Int)] w fun e w' => e = .returned (.bool true) ∧ w' = w := by
  have HK : Hid (Calls Try.prog 22 #[.map (some b), v, .map (some b2), .bool true] w fun e w' => e = .returned (.bool true) ∧ w' = w) :=
    kept_calls w b sz (desc f S L) hm b2 sz2 f h2 ss hn hs v hv true (fun s hs' => by
      cases hd : isD s
      · obtain ⟨B, hB⟩ := Option.isSome_iff_exists.1 (hall s hs')
        exact .inr ⟨B, by rw [desc_other _ _ _ hd]; exact hB, hB⟩
      · exact .inl ⟨rfl, hd⟩)
  have hlen := fun ty => hm.len ty
  have lS : (Instr.lookup 26 (.map (some b)) (.string ⟨#[115, 104, 111, 114, 116, 45, 100, 101, 115, 99, 114, 105, 112, 116, 105, 111, 110]⟩) false).run Try.prog w = .ok (.pointer (some ⟨S, 0, none⟩)) w := by
    have := hm.look (s := shortN) (by decide)
    rw [desc_short] at this
    exact this
  have lL : (Instr.lookup 26 (.map (some b)) (.string ⟨#[108, 111, 110, 103, 45, 100, 101, 115, 99, 114, 105, 112, 116, 105, 111, 110]⟩) false).run Try.prog w = .ok (.pointer (some ⟨L, 0, none⟩)) w := by
    have := hm.look (s := longN) (by decide)
    rw [desc_long] at this
    exact this
  have HS : Hid (Calls Try.prog 39 #[.pointer (some ⟨S, 0, none⟩), .string ⟨#[97, 32, 115, 104, 111, 114, 116, 45, 100, 101, 115, 99, 114, 105, 112, 116, 105, 111, 110]⟩] w fun e w' => e = .returned (.bool true) ∧ w' = w) := description_calls w S shortW hS
  have HL : Hid (Calls Try.prog 39 #[.pointer (some ⟨L, 0, none⟩), .string ⟨#[97, 32, 108, 111, 110, 103, 45, 100, 101, 115, 99, 114, 105, 112, 116, 105, 111, 110]⟩] w fun e w' => e = .returned (.bool true) ∧ w' = w) := description_calls w L longW hL
  clear hm hS hL h2 hn hs hv hall
  go_enter Try.func16, Try.ntmps16
  go_wp2_with fail
  refine HK.out.mono ?_
  rintro e w' ⟨rfl, rfl⟩
  go_wp2_with fail
  refine HS.out.mono ?_
  rintro e w' ⟨rfl, rfl⟩
  go_wp2_with fail
  refine HL.out.mono ?_
  rintro e w' ⟨rfl, rfl⟩
  go_wp2_with fail
  go_ret
  exact ⟨rfl, rfl⟩

end Go.Proofs.Qxb6618487a.Dc
