/-
  CONTRACTS OF strings.Builder AS THE CALL ITSELF MAKES IT: copyCheck, WriteByte, String: for every byte and every builder of the call's own that holds fewer than 2 to the 47th bytes.
-/
import Derived.Test.YtdoddigmfckhmaaDoorBase
import Derived.Test.YtdoddigmfckhmaaDoorRows
import Derived.Test.YtdoddigmfckhmaaDoorShelf
import Derived.Lib.UnsafeStr
namespace Go.Proofs.YtdoddigmfckhmaaDoor
open Go.RowKit

theorem bldInfo : (Tryd.prog.info? 40).map (·.size) = some 2 := by kernel_rfl
theorem bldLies : liesAt Tryd.prog Tryd.prog.depth 40 (2 / Tryd.prog.cellsOf 40) 0 40 1 = true := by kernel_rfl
theorem byteInfo : (Tryd.prog.info? 5).map (fun i => (i.zero, i.size, i.bytes)) = some (some (.int .u8 0), 1, 1) := by kernel_rfl

/-- A builder of the call's own (from block B on), in block b, that holds the bytes l. -/
def Bld (B b : Nat) (l : List UInt8) (w : World) : Prop := Lib.IsBuilder 40 5 B b (Lib.byteCells l) w ∧ B ≤ w.heap.size
theorem bld_fresh (w : World) : Bld w.heap.size w.heap.size [] (w.alloc (.cells #[.pointer none, .slice none 0 0] 40)) := ⟨Lib.fresh_isBuilder _ _ w, by simp⟩

theorem Bld.drew {B b : Nat} {l : List UInt8} {w : World} (h : Bld B b l w) : Bld B b l w.drew := h
theorem Bld.drewN {B b : Nat} {l : List UInt8} {w : World} (h : Bld B b l w) (n : Nat) : Bld B b l (w.drewN n) := h

set_option maxRecDepth 100000 in
theorem copyCheck_used (b : Nat) (w : World) (h0 : w.cell? ⟨b, 0, none⟩ = some (.pointer (some ⟨b, 0, none⟩))) :
    Calls Tryd.prog 25 #[.pointer (some ⟨b, 0, none⟩)] w (Pure (.tuple #[]) w) := by
  obtain ⟨j, hj, _⟩ := Option.map_eq_some_iff.1 bldInfo
  have hne := Lib.run_neq_ptr_same (P := Tryd.prog) w ⟨b, 0, none⟩ Tryd.underlying37 hj
  go_enter Tryd.func25, Tryd.ntmps25
  go_wp2
  go_end0
  exact ⟨rfl, rfl⟩
set_option maxRecDepth 100000 in
theorem copyCheck_fresh (b : Nat) (w : World) (h0 : w.cell? ⟨b, 0, none⟩ = some (.pointer none)) (hsh : w.shape? b = some (40, 2)) (hfz : w.frozen? ⟨b, 0, none⟩ = false) :
    Calls Tryd.prog 25 #[.pointer (some ⟨b, 0, none⟩)] w (Pure (.tuple #[]) (w.setCell ⟨b, 0, none⟩ (.pointer (some ⟨b, 0, none⟩)))) := by
  obtain ⟨j, hj, hjs⟩ := Option.map_eq_some_iff.1 bldInfo
  go_enter Tryd.func25, Tryd.ntmps25
  go_wp2
  rw [Lib.run_to_unsafe w ⟨b, 0, none⟩ Tryd.underlying37 Tryd.underlying63 hj (by rw [hjs]; decide) hsh (Nat.zero_lt_succ 1)]
  simp only [Result.andThen]
  rw [Oper.upon_value]
  go_wp2
  rw [run_callFunc_extern Tryd.func36 (by kernel_rfl) (by kernel_rfl) (by kernel_rfl) (e := Extern.AbiNoEscape.same) (by kernel_rfl)]
  rw [Lib.run_noEscape]
  simp only [Result.andThen]
  rw [Oper.upon_value]
  go_wp2
  rw [Lib.run_from_unsafe w ⟨b, 0, none⟩ Tryd.underlying63 Tryd.underlying37 hj hsh bldLies]
  simp only [Result.andThen]
  rw [Oper.upon_value]
  go_wp2
  go_end0
  exact ⟨rfl, rfl⟩

theorem copyCheck_c (B b : Nat) (bs : List Value) (w : World) (h : Lib.IsBuilder 40 5 B b bs w) :
    Calls Tryd.prog 25 #[.pointer (some ⟨b, 0, none⟩)] w fun e w' => e = .returned (.tuple #[]) ∧ Lib.BuilderAt 40 5 B b (.pointer (some ⟨b, 0, none⟩)) bs w' ∧ Below B w w' ∧ w.heap.size ≤ w'.heap.size := by
  rcases h with h | h
  · refine (copyCheck_fresh b w h.cell0 h.shape h.frozen0).mono ?_
    rintro e w' ⟨rfl, rfl⟩
    exact ⟨rfl, h.used _, (Below.refl B w).setCell (p := ⟨b, 0, none⟩) h.1 _, by simp [World.setCell]⟩
  · refine (copyCheck_used b w h.cell0).mono ?_
    rintro e w' ⟨rfl, rfl⟩
    exact ⟨rfl, h, Below.refl B _, Nat.le_refl _⟩

set_option maxRecDepth 100000 in
theorem writeByte_c (B b : Nat) (l : List UInt8) (c : UInt8) (w : World) (h : Bld B b l w) (hlen : l.length + 1 ≤ 140737488355328) :
    Calls Tryd.prog 28 #[.pointer (some ⟨b, 0, none⟩), .int .u8 c.toNat] w fun e w' => e = .returned .nilIface ∧ Bld B b (l ++ [c]) w' ∧ Below B w w' := by
  obtain ⟨hI, hBw⟩ := h
  have hbl : (Lib.byteCells l).length + 1 ≤ 140737488355328 := by simp [Lib.byteCells]; omega
  clear hlen
  obtain ⟨i0, hi, hz0, hz1, hz2⟩ := info_parts byteInfo
  go_enter Tryd.func28, Tryd.ntmps28
  go_wp2_with (go_at_call 25; refine (copyCheck_c B b _ _ hI).mono ?_)
  rintro e w1 ⟨rfl, h1, hb1, hsz⟩
  obtain ⟨hB, v, hbk, hown, hne⟩ := h1
  have c1 : w1.cell? ⟨b, 1, none⟩ = some v := by rw [Lib.cell_of_heap hbk]; rfl
  go_wp2_with (at_builtin; refine wpList_append_own _ rfl _ _ 38 rfl B 5 i0 (.int .u8 0) 1 1 Tryd.underlying38 hi hz0 hz1 hz2 rfl (by decide) _ _ _ rfl (hown.alloc _) ⟨w1.heap.size, 0, none⟩ 1 1 [.int .u8 (c.toNat : Int)] rfl rfl ?c1 ?c2 ?c3 ?c4 ?c5 ?_)
  case c1 =>
    intro j u hj
    match j, hj with
    | 0, hj => simp at hj; subst hj; simp [Addr.add]
  case c2 => intro u hu; simp at hu; subst hu; rfl
  case c3 => unfold maxLen; omega
  case c4 => omega
  case c5 => simp; omega
  intro v' w2 hown' hgrow _
  have hlt : b < w1.heap.size := by
    rcases Nat.lt_or_ge b w1.heap.size with h' | h'
    · exact h'
    · simp [Array.getElem?_eq_none h'] at hbk
  have hb2 : w2.heap[b]? = some (.cells #[.pointer (some ⟨b, 0, none⟩), v] 40 (0, 0)) := by
    rw [hgrow.block b (by simp; omega) (fun e => hne e.symm), Lib.alloc_old w1 _ b hlt]
    exact hbk
  have d1 : w2.cell? ⟨b, 1, none⟩ = some v := by rw [Lib.cell_of_heap hb2]; rfl
  have f1 : w2.frozen? ⟨b, 1, none⟩ = false := Lib.frozen_of_heap hb2 1
  obtain ⟨g, cap, rfl⟩ : ∃ g cap, v' = .slice (some ⟨g, 0, none⟩) ((Lib.byteCells l).length + 1) cap := by
    rcases hown'.2 with ⟨_, h0⟩ | ⟨g, cap, cur, hv, _⟩
    · omega
    · exact ⟨g, cap, hv⟩
  have hs2 := hgrow.size
  simp only [World.size_alloc] at hs2
  go_wp2
  go_ret
  refine ⟨rfl, ⟨.inr ?_, ?_⟩, ?_⟩
  · have hB2 := Lib.BuilderAt.put (T := 40) (e := 5) hB hb2 (bs' := Lib.byteCells l ++ [.int .u8 (c.toNat : Int)]) (by simpa using hown') (by decide)
    have e : Lib.byteCells (l ++ [c]) = Lib.byteCells l ++ [.int .u8 (c.toNat : Int)] := by simp [Lib.byteCells]
    rw [e]
    exact hB2
  · simp [World.setCell]; omega
  · exact ((hb1.alloc (by omega) _).grown hgrow (by simp; omega) (fun k hk => (hown.lt k hk).1)).setCell (p := ⟨b, 1, none⟩) hB _

theorem string_c (B b : Nat) (l : List UInt8) (w : World) (h : Bld B b l w) :
    Calls Tryd.prog 24 #[.pointer (some ⟨b, 0, none⟩)] w fun e w' => e = .returned (.string ⟨l.toArray⟩) ∧ Below B w w' :=
  Tryd.Builder_String_any B b l w h.1 h.2
end Go.Proofs.YtdoddigmfckhmaaDoor
