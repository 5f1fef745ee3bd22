/-
  SEAT b6618487a: described (44).
-/
import Derived.Test.Qxb6618487aDcFill
namespace Go.Proofs.Qxb6618487a.Dc
open Go.RowKit Go.Maps

def langN : ByteArray := ⟨#[108, 97, 110, 103, 117, 97, 103, 101]⟩
def shortW : ByteArray := ⟨#[97, 32, 115, 104, 111, 114, 116, 45, 100, 101, 115, 99, 114, 105, 112, 116, 105, 111, 110]⟩
def longW : ByteArray := ⟨#[97, 32, 108, 111, 110, 103, 45, 100, 101, 115, 99, 114, 105, 112, 116, 105, 111, 110]⟩

/-- BLOCK d IS A DESCRIPTION's NODE. -/
def DNode (w : World) (d : Nat) (what : ByteArray) : Prop := ∃ g, Node w d what (.slice (some ⟨g, 0, none⟩) 1 1) none true ∧ w.cell? ⟨g, 0, none⟩ = some (.string langN)

/-- The two names described. -/
def desc (f : ByteArray → Option Nat) (S L : Nat) : ByteArray → Option Nat := upd (upd f shortN S) longN L
def missN (f : ByteArray → Option Nat) : Nat := (if (f shortN).isSome then 0 else 1) + (if (f longN).isSome then 0 else 1)
theorem miss_is (f : ByteArray → Option Nat) : miss f = (missN f : Int) := by
  unfold miss missN
  split <;> split <;> rfl
theorem desc_short (f : ByteArray → Option Nat) (S L : Nat) : desc f S L shortN = some S := by
  unfold desc
  rw [upd_other _ _ short_ne_long, upd_same]
theorem desc_long (f : ByteArray → Option Nat) (S L : Nat) : desc f S L longN = some L := upd_same _ _ _
theorem desc_other (f : ByteArray → Option Nat) (S L : Nat) {k : ByteArray} (h : isD k = false) : desc f S L k = f k := by
  obtain ⟨h1, h2⟩ := isD_no h
  unfold desc
  rw [upd_other _ _ h2, upd_other _ _ h1]
theorem missN_desc (f : ByteArray → Option Nat) (S L : Nat) : missN (desc f S L) = 0 := by
  unfold missN
  rw [desc_short, desc_long]
  rfl
theorem missN_le (f : ByteArray → Option Nat) : missN f ≤ 2 := by
  unfold missN
  split <;> split <;> omega
theorem grow_desc (f : ByteArray → Option Nat) (S sz : Nat) : grow (upd f shortN S) longN (grow f shortN sz) = sz + missN f := by
  unfold grow missN
  rw [upd_other _ _ (Ne.symm short_ne_long)]
  split <;> split <;> omega

/-- What 'described' leaves. -/
structure Descd (w w' : World) (b : Nat) (f : ByteArray → Option Nat) (sz S L : Nat) : Prop where
  m : IsM w' b (desc f S L) (sz + missN f)
  short : DNode w' S shortW
  long : DNode w' L longW
  old : Kept (fun k => k = b) w w'

theorem alloc2 (w : World) (o o' : Obj) : Kept (fun _ => False) w ((w.alloc o).alloc o') :=
  ((Kept.alloc (fun _ => False) w o).trans (Kept.alloc (fun _ => False) (w.alloc o) o')).mono (fun _ _ e => e.elim id id)

/-- The two blocks that are laid for a description. -/
theorem dnode_laid (w : World) (what : ByteArray) :
    DNode ((w.alloc (.cells #[.string langN] 9)).alloc (.cells #[.string what, .slice (some ⟨w.heap.size, 0, none⟩) 1 1, .map none, .bool true, .bool false] 62)) (w.heap.size + 1) what := by
  have e : (w.alloc (.cells #[.string langN] 9)).heap.size = w.heap.size + 1 := by simp
  have hb := heap_alloc_new (w.alloc (.cells #[.string langN] 9)) (.cells #[.string what, .slice (some ⟨w.heap.size, 0, none⟩) 1 1, .map none, .bool true, .bool false] 62)
  rw [e] at hb
  have hl := (Below.heap_alloc (w.alloc (.cells #[.string langN] 9)) (.cells #[.string what, .slice (some ⟨w.heap.size, 0, none⟩) 1 1, .map none, .bool true, .bool false] 62) w.heap.size (by omega)).trans (heap_alloc_new w (.cells #[.string langN] 9))
  refine ⟨w.heap.size, ⟨?_, ?_, ?_, ?_, ?_⟩, ?_⟩
  · rw [cell_of_row _ _ 0 _ _ _ hb]; rfl
  · rw [cell_of_row _ _ 1 _ _ _ hb]; rfl
  · rw [cell_of_row _ _ 2 _ _ _ hb]; rfl
  · rw [cell_of_row _ _ 3 _ _ _ hb]; rfl
  · rw [cell_of_row _ _ 4 _ _ _ hb]; rfl
  · rw [cell_of_row _ _ 0 _ _ _ hl]; rfl

theorem DNode.kept {w w' : World} {d : Nat} {what : ByteArray} {S : Nat → Prop} (h : DNode w d what) (hk : Kept S w w') (hS : ∀ k, k < w.heap.size → S k → ∀ o, w.cell? ⟨k, o, none⟩ = none) : DNode w' d what := by
  obtain ⟨g, h1, h2⟩ := h
  refine ⟨g, h1.kept hk (fun e => ?_), hk.cell h2 (fun e => ?_)⟩
  · have := hS d h1.lt e 0
    rw [h1.c0] at this
    cases this
  · have := hS g (World.block_lt_of_cell? w _ h2) e 0
    rw [h2] at this
    cases this

theorem IsM.noCell {w : World} {b sz : Nat} {f : ByteArray → Option Nat} (h : IsM w b f sz) (o : Nat) : w.cell? ⟨b, o, none⟩ = none := by
  obtain ⟨D, ⟨es, clock, hb, _⟩, _⟩ := h
  simp [World.cell?, hb]

set_option maxRecDepth 100000 in
set_option maxHeartbeats 1000000 in
theorem described_calls (w : World) (b : Nat) (f : ByteArray → Option Nat) (sz : Nat) (h : IsM w b f sz) (hn : sz ≤ 70000) :
    Calls Try.prog 44 #[.map (some b)] w fun e w' => e = .returned (.map (some b)) ∧ ∃ S L, Descd w w' b f sz S L := by
  obtain ⟨w1, r1, M1, K1⟩ := (h.kept (alloc2 w (.cells #[.string langN] 9) (.cells #[.string shortW, .slice (some ⟨w.heap.size, 0, none⟩) 1 1, .map none, .bool true, .bool false] 62)) (fun h => h)).update (by unfold maxLen; omega) (s := shortN) (by decide) (w.heap.size + 1)
  have hg : grow f shortN sz ≤ 70001 := by unfold grow; split <;> omega
  obtain ⟨w2, r2, M2, K2⟩ := (M1.kept (alloc2 w1 (.cells #[.string langN] 9) (.cells #[.string longW, .slice (some ⟨w1.heap.size, 0, none⟩) 1 1, .map none, .bool true, .bool false] 62)) (fun h => h)).update (by unfold maxLen; omega) (s := longN) (by decide) (w1.heap.size + 1)
  have HR : Hid (∃ S L, Descd w w2 b f sz S L) := by
    refine ⟨w.heap.size + 1, w1.heap.size + 1, ?_, ?_, ?_, ?_⟩
    · rw [grow_desc] at M2
      exact M2
    · exact (((dnode_laid w shortW).kept K1 (fun k _ e o => by subst e; exact (h.kept (alloc2 w _ _) (fun h => h)).noCell o)).kept (alloc2 w1 _ _) (fun _ _ e => e.elim)).kept K2 (fun k _ e o => by subst e; exact (M1.kept (alloc2 w1 _ _) (fun h => h)).noCell o)
    · exact (dnode_laid w1 longW).kept K2 (fun k _ e o => by subst e; exact (M1.kept (alloc2 w1 _ _) (fun h => h)).noCell o)
    · exact (((alloc2 w _ _).trans K1).trans ((alloc2 w1 _ _).trans K2)).mono (fun k _ e => by
        rcases e with (e | e) | (e | e)
        · exact e.elim
        · exact e
        · exact e.elim
        · exact e)
  clear M1 K1 M2 K2 h hg
  unfold langN shortN shortW at r1
  unfold langN longN longW at r2
  go_enter Try.func44, Try.ntmps44
  go_wp2
  go_ret
  exact ⟨rfl, HR.out⟩

end Go.Proofs.Qxb6618487a.Dc
