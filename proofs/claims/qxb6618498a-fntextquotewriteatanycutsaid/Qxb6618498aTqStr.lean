/-
  SEAT b6618498a: bytes told by a ByteArray; 'string(p)'; 'append(head, s...)' onto a slice of the call's own, and where the new slice lies.
-/
import Derived.Test.Qxb6618498aTqBase
import Derived.Lib.AppendStr
import Derived.Lib.SlBytesRow
import Derived.Lib.BufferRead
import Derived.Deep.RegionLaw
namespace Go.Proofs.Qxb6618498a.Tq
open Go.RowKit

/-- The bytes of s as numbers. -/
def nats (s : ByteArray) : List Nat := s.data.toList.map UInt8.toNat
theorem nats_length (s : ByteArray) : (nats s).length = s.size := by simp [nats]
theorem nats_cells (s : ByteArray) : Lib.strCells s = (nats s).map bv := by
  unfold Lib.strCells nats
  rw [List.map_map]
  rfl
theorem nats_getD (s : ByteArray) (i : Nat) (h : i < s.size) : (nats s).getD i 0 = s[i].toNat := by
  have h' : i < s.data.toList.length := by simpa using h
  unfold nats
  rw [List.getD_eq_getElem?_getD, List.getElem?_map, List.getElem?_eq_getElem h']
  rfl
theorem nats_take (s : ByteArray) (k : Nat) : nats (s.extract 0 k) = (nats s).take k := by
  unfold nats
  rw [Lib.extract_data]
  simp [List.map_take]

theorem convert_calls (w : World) (v : Value) (D : ByteArray) (h : IsBytes w v (nats D)) : (convert 22 9 v).run Try.prog w = .ok (.string D) w := by
  rcases h with ⟨h0, a, c, rfl⟩ | ⟨b, off, c, rfl, hc⟩
  · have hD : D = ⟨#[]⟩ := by
      have : D.data.toList = [] := by simpa [nats] using h0
      cases D
      simp_all
    subst hD
    cases a with
    | none => exact Lib.run_convert_nil_bytes w 22 9 5 c Try.underlying22 Try.underlying5 Try.underlying9
    | some a =>
      rw [run_convert_bytes_string w 22 9 5 (some a) 0 c Try.underlying22 Try.underlying5 Try.underlying9]
      have hl : (loadCells a 0).run Try.prog w = .ok (([] : List Int).map (Value.int .u8)).toArray w := by
        have := run_loadCells_list (P := Try.prog) w a [] (by simp)
        simpa using this
      exact run_bytesToString w a 0 c [] hl
  · rw [nats_length]
    refine Lib.run_convert_whole w 22 5 9 Try.underlying22 Try.underlying5 Try.underlying9 b off D (fun i hi => ?_) c
    rw [hc i (by rw [nats_length]; exact hi), nats_getD D i hi]
    rfl

/-- 'append(v, s...)', v of the call's own: SOME slice of the call's own, in v's row or in a new block. -/
theorem run_append_str (w : World) (ty : TypeId) (base : Nat) (v : Value) (H : List Nat) (s : ByteArray) (hown : Owns w base v H) (hb : H.length + s.size ≤ 2097152) (hbase : base ≤ w.heap.size) :
    ∃ v' w', (Builtin.append_ #[22, 9] ty #[v, .string s]).run Try.prog w = .ok v' w' ∧ Owns w' base v' (H ++ nats s) ∧ Kept (fun k => v.ownBlock = some k) w w' ∧ (v'.ownBlock = v.ownBlock ∨ v'.ownBlock = some w.heap.size) ∧ ∃ a n c, v' = .slice a n c := by
  obtain ⟨i0, hi, hz0, hz1, hz2⟩ := info_parts info5
  obtain ⟨v', w', hr, ho, hg, hnil⟩ := Lib.run_append_own_string (P := Try.prog) w base 22 9 ty 5 i0 Try.underlying22 Try.underlying9 hi hz0 hz1 hz2 v H.length (H.map bv) hown s (by unfold maxLen; omega) (by omega) hbase
  have hO : Owns w' base v' (H ++ nats s) := by
    unfold Owns
    rw [List.length_append, nats_length, List.map_append, ← nats_cells]
    exact ho
  refine ⟨v', w', hr, hO, (Kept.of_grown hg).mono (fun k _ e => e.symm), ?_, ?_⟩
  · rcases hown.2 with ⟨rfl, hn0⟩ | ⟨g, cap, cur, rfl, hbg, hgg, hnc, hcm, hcs, htake⟩
    · by_cases hs0 : s.size = 0
      · left
        rw [hnil.2 ⟨rfl, hs0⟩]
      · right
        have hr2 := run_append_nil_string (P := Try.prog) w 22 9 ty 5 i0 (.int .u8 0) Try.underlying22 Try.underlying9 hi hz0 s (by omega) (by omega) (by rw [hz2]; omega)
        rw [hr] at hr2
        injection hr2 with e1 e2
        rw [e1]
        rfl
    · by_cases hroom : H.length + s.size ≤ cap
      · left
        have hr2 := Lib.run_append_room_string (P := Try.prog) w 22 9 ty 5 i0 Try.underlying22 Try.underlying9 hi hz1 g H.length cap cur hgg s hroom (by omega)
        rw [hr] at hr2
        injection hr2 with e1 e2
        rw [e1]
        rfl
      · right
        have holds : ∀ j u, (H.map bv)[j]? = some u → w.cell? ((⟨g, 0, none⟩ : Addr).add j) = some u := World.ownsRow.cells hown (g := g) rfl
        have hr2 := Lib.run_append_grow_string (P := Try.prog) w 22 9 ty 5 i0 (.int .u8 0) Try.underlying22 Try.underlying9 hi hz0 ⟨g, 0, none⟩ H.length cap (H.map bv) (by rw [hz1]; simp) holds s (by omega) (by omega) (by rw [hz2]; exact growslice_fits (by omega) (by omega))
        rw [hr] at hr2
        injection hr2 with e1 e2
        rw [e1]
        rfl
  · obtain ⟨a, c, e⟩ := hO.isBytes.shape
    exact ⟨a, _, c, e⟩

/-- The same as one step of a region that draws its order. -/
theorem step_append_str {ops : Array Oper} {o : Oper} {a : Act} {w : World} {K : Act → World → Prop} {Q : Exit → Act → World → Prop} {E : Prop}
    (hgd : o.guard = none) (s x : Operand) (hop : o.op = Op.call { callee := Callee.builtin Builtin.append, args := #[s, x], argTypes := #[22, 9] }) (v v' : Value) (t : ByteArray) (w' : World) (hs : a.eval s = v) (hx : a.eval x = .string t)
    (hr : ∀ ty, (Builtin.append_ #[22, 9] ty #[v, .string t]).run Try.prog w = .ok v' w') (hK : K (a.put o.dst v') w') :
    if Region.wanted o (yielded ops a.tmps) = true then Oper.wp Try.prog o a w K Q else E := by
  have hw : Region.wanted o (yielded ops a.tmps) = true := by simp [Region.wanted, hgd]
  rw [if_pos hw]
  unfold Oper.wp execOp
  simp only [hop, resolve, invoke, builtin, Sem.run_bind, Sem.run_pure, Result.andThen_ok, List.map_toArray, List.map_cons, List.map_nil, hs, hx, hr]
  exact hK

end Go.Proofs.Qxb6618498a.Tq
