/-
  SEAT b6618487a: what both laws carry from the making of the maps on.
-/
import Derived.Test.Qxb6618487aDcOk
namespace Go.Proofs.Qxb6618487a.Dc
open Go.RowKit Go.Maps

/-- The keys' copy, the wanted attributes and the second map: the two slices lie in the blocks from lo on, ahead of h; the maps are h and h + 1. -/
structure Env (w : World) (lo h hi : Nat) (K W : Value) (ats ks : List ByteArray) (f : ByteArray → Option Nat) (sz : Nat) : Prop where
  keys : IsStrs w K ks
  keysIn : ∀ k, K.ownBlock = some k → lo ≤ k ∧ k < h
  want : IsStrs w W ats
  wantIn : ∀ k, W.ownBlock = some k → lo ≤ k ∧ k < h
  keep : IsM w (h + 1) f sz
  lt : lo ≤ h ∧ h + 1 < hi

theorem Env.kept {w w' : World} {lo h hi : Nat} {K W : Value} {ats ks : List ByteArray} {f : ByteArray → Option Nat} {sz : Nat} {S : Nat → Prop} (e : Env w lo h hi K W ats ks f sz) (hk : Kept S w w')
    (hS : ∀ k, S k → k = h ∨ k < lo ∨ hi ≤ k) : Env w' lo h hi K W ats ks f sz := by
  have hlt := e.lt
  refine ⟨e.keys.kept hk (fun k hk' hs => ?_), e.keysIn, e.want.kept hk (fun k hk' hs => ?_), e.wantIn, e.keep.kept hk (fun hs => ?_), e.lt⟩
  · have := e.keysIn k hk'
    rcases hS k hs with h | h | h <;> omega
  · have := e.wantIn k hk'
    rcases hS k hs with h | h | h <;> omega
  · rcases hS _ hs with h | h | h <;> omega

theorem desc_desc (f : ByteArray → Option Nat) (S L S' L' : Nat) : desc (desc f S L) S' L' = desc f S' L' := by
  funext x
  unfold desc
  by_cases h1 : x = longN
  · subst h1; rw [upd_same, upd_same]
  · rw [upd_other _ _ h1, upd_other _ _ h1]
    by_cases h2 : x = shortN
    · subst h2; rw [upd_same, upd_same]
    · rw [upd_other _ _ h2, upd_other _ _ h2, upd_other _ _ h1, upd_other _ _ h2]

/-- 'describedOK' with the count as the walk has it. -/
theorem describedOK_at (w : World) (b : Nat) (f : ByteArray → Option Nat) (sz S L : Nat) (hm : IsM w b (desc f S L) sz) (hS : DNode w S shortW) (hL : DNode w L longW) (lo h hi sz2 : Nat) (K W : Value) (ats ks : List ByteArray)
    (he : Env w lo h hi K W ats ks f sz2) (hn : ks.length ≤ 65536) (hs : ∀ s ∈ ks, s.size ≤ maxLen) (hall : ∀ s ∈ ks, (f s).isSome = true) (cnt : Int) (hc : cnt = (sz : Int)) :
    Calls Try.prog 16 #[.map (some b), K, .map (some (h + 1)), .int .i64 cnt] w fun e w' => e = .returned (.bool true) ∧ w' = w := by
  subst hc
  exact describedOK_calls w b f sz S L hm hS hL (h + 1) sz2 he.keep ks hn hs K he.keys hall

/-- What the two copies and 'fillChildren' leave. -/
theorem Env.of {w1 w2 w3 w4 : World} {K W : Value} {ats ks : List ByteArray} {f : ByteArray → Option Nat} {sz : Nat} (hK : Cloned w1 w2 K ks) (hW : Cloned w2 w3 W ats) (hF : Fill w3 w4 w3.heap.size ks ks.length f sz) :
    Env w4 w1.heap.size w3.heap.size w4.heap.size K W ats ks f sz := by
  have s1 := hK.2.size
  have s2 := hW.2.size
  refine ⟨((ownsRow_strs hK.1).kept hW.2 (fun _ _ h => h)).kept hF.old (fun _ _ h => h), fun k hk => ?_, (ownsRow_strs hW.1).kept hF.old (fun _ _ h => h), fun k hk => ?_, hF.keep, by omega, ?_⟩
  · have := hK.1.lt k hk
    omega
  · have := hW.1.lt k hk
    omega
  · exact hF.keep.lt

theorem fill_all {w wr : World} {B : Nat} {ss : List ByteArray} {f : ByteArray → Option Nat} {sz : Nat} (h : Fill w wr B ss ss.length f sz) : ∀ s ∈ ss, (f s).isSome = true := by
  intro s hs
  obtain ⟨i, hi, rfl⟩ := List.mem_iff_getElem.1 hs
  have := h.there i hi
  rw [List.getD_eq_getElem?_getD, List.getElem?_eq_getElem hi] at this
  exact this

/-- The attributes' copy is still owned when the maps are made. -/
theorem owned_later {w w1 w2 w3 w4 : World} {A K W : Value} {ats ks : List ByteArray} {f : ByteArray → Option Nat} {sz : Nat} (hA : Cloned w w1 A ats) (hK : Cloned w1 w2 K ks) (hW : Cloned w2 w3 W ats) (hF : Fill w3 w4 w3.heap.size ks ks.length f sz) :
    w4.ownsRow w.heap.size 9 1 A ats.length (ats.map Value.string) ∧ ∀ k, A.ownBlock = some k → w.heap.size ≤ k ∧ k < w1.heap.size :=
  ⟨ownsRow_kept (ownsRow_kept (ownsRow_kept hA.1 hK.2 (fun _ _ h => h)) hW.2 (fun _ _ h => h)) hF.old (fun _ _ h => h), hA.1.lt⟩

end Go.Proofs.Qxb6618487a.Dc
