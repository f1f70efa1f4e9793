/-
  A ROW OF BYTES THAT THE CALL MAKES (make([]byte, m)) AND FILLS FROM ITS BEGINNING: its cells, a store, string(b).
-/
import Derived.Test.YtdoddigmfckhmaaDoorByt
import Derived.Laws.OwnMore
import Derived.Lib.Builder
import Derived.Lib.UnsafeStr
namespace Go.Proofs.YtdoddigmfckhmaaDoor
open Go.RowKit

/-- The cells of the row that is filled: what has been written, then noughts. -/
def fillCells (m : Nat) (acc : List UInt8) : Array Value := (Lib.byteCells acc ++ List.replicate (m - acc.length) (Value.int .u8 0)).toArray
theorem fill_start (m : Nat) : madeCells #[Value.int .u8 0] m = fillCells m [] := by
  apply Array.ext'
  rw [toList_madeCells_one]
  simp [fillCells, Lib.byteCells]
theorem fill_size (m : Nat) (acc : List UInt8) (h : acc.length ≤ m) : (fillCells m acc).size = m := by simp [fillCells, Lib.byteCells]; omega
theorem fill_step (m : Nat) (acc : List UInt8) (c : UInt8) (h : acc.length < m) : (fillCells m acc).setIfInBounds acc.length (.int .u8 (c.toNat : Int)) = fillCells m (acc ++ [c]) := by
  have hl : (Lib.byteCells acc).length = acc.length := by simp [Lib.byteCells]
  unfold fillCells
  rw [List.setIfInBounds_toArray, List.set_append_right _ _ (by omega), hl, Nat.sub_self]
  obtain ⟨d, hd⟩ : ∃ d, m - acc.length = d + 1 := ⟨m - acc.length - 1, by omega⟩
  rw [hd, List.replicate_succ, List.set_cons_zero]
  have : m - (acc ++ [c]).length = d := by simp; omega
  rw [this, byteCells_snoc]
  simp
theorem fill_at (m : Nat) (acc : List UInt8) (h : acc.length < m) : (fillCells m acc)[acc.length]? = some (.int .u8 0) := by
  have hl : (Lib.byteCells acc).length = acc.length := by simp [Lib.byteCells]
  unfold fillCells
  rw [List.getElem?_toArray, List.getElem?_append_right (by omega), hl, Nat.sub_self]
  obtain ⟨d, hd⟩ : ∃ d, m - acc.length = d + 1 := ⟨m - acc.length - 1, by omega⟩
  rw [hd, List.replicate_succ]
  rfl

/-- Block g is the row that is filled. -/
def Fills (g m : Nat) (acc : List UInt8) (w : World) : Prop := w.heap[g]? = some (.cells (fillCells m acc) 5 (0, 0)) ∧ acc.length ≤ m
theorem Fills.cell {g m : Nat} {acc : List UInt8} {w : World} (h : Fills g m acc w) (hl : acc.length < m) : w.cell? ⟨g, acc.length, none⟩ = some (.int .u8 0) := by
  rw [Lib.cell_of_heap h.1, fill_at m acc hl]
theorem Fills.frozen {g m : Nat} {acc : List UInt8} {w : World} (h : Fills g m acc w) (j : Nat) : w.frozen? ⟨g, j, none⟩ = false := Lib.frozen_of_heap h.1 j
theorem Fills.step {g m : Nat} {acc : List UInt8} {w : World} (h : Fills g m acc w) (hl : acc.length < m) (c : UInt8) : Fills g m (acc ++ [c]) (w.setCell ⟨g, acc.length, none⟩ (.int .u8 (c.toNat : Int))) := by
  refine ⟨?_, by simp; omega⟩
  rw [← fill_step m acc c hl]
  simp [World.setCell, Array.getElem?_modify, h.1]
theorem Fills.drew {g m : Nat} {acc : List UInt8} {w : World} (h : Fills g m acc w) : Fills g m acc w.drew := h
theorem Fills.below {g m : Nat} {acc : List UInt8} {w w' : World} (h : Fills g m acc w) (hb : Below w.heap.size w w') : Fills g m acc w' := by
  have hg : g < w.heap.size := by
    rcases Nat.lt_or_ge g w.heap.size with h1 | h1
    · exact h1
    · have := h.1
      rw [Array.getElem?_eq_none h1] at this
      cases this
  exact ⟨by rw [hb.block g hg]; exact h.1, h.2⟩
theorem fills_string {g : Nat} {x : List UInt8} {w : World} (h : Fills g x.length x w) : (convert 38 9 (.slice (some ⟨g, 0, none⟩) x.length x.length)).run Tryd.prog w = .ok (.string ⟨x.toArray⟩) w := by
  refine run_convert_bytes_back w 38 9 5 ⟨g, 0, none⟩ x.length x Tryd.underlying38 Tryd.underlying5 Tryd.underlying9 ?_
  intro j hj
  have : ((⟨g, 0, none⟩ : Addr).add j) = ⟨g, j, none⟩ := by simp [Addr.add]; intro h; exact h.symm
  rw [this, Lib.cell_of_heap h.1]
  simp [fillCells, Lib.byteCells, hj]

theorem pctImpl_make (m : Nat) (hm : m ≤ 1099511627776) (u : World) : (Instr.makeSlice 38 (.int .i64 (m : Int)) (.int .i64 (m : Int))).run Tryd.prog u =
    .ok (.slice (some ⟨u.heap.size, 0, none⟩) m m) (u.alloc (.cells (fillCells m []) 5)) := by
  obtain ⟨i0, hi, hz0, hz1, hz2⟩ := info_parts byteRow
  have h := run_make (P := Tryd.prog) u 38 5 i0 (.int .u8 0) Tryd.underlying38 hi hz0 .i64 .i64 (m : Int) (m : Int) (by omega) (Int.le_refl _) (by rw [hz2]; omega) (by omega)
  rw [Int.toNat_natCast] at h
  rw [← fill_start]
  simpa [hz1, Value.cells] using h

/-- 'string(b[:n])' of such a row, filled so far. -/
theorem fills_string_part {g m : Nat} {x : List UInt8} {w : World} (h : Fills g m x w) : (convert 38 9 (.slice (some ⟨g, 0, none⟩) x.length m)).run Tryd.prog w = .ok (.string ⟨x.toArray⟩) w := by
  refine run_convert_bytes_back w 38 9 5 ⟨g, 0, none⟩ m x Tryd.underlying38 Tryd.underlying5 Tryd.underlying9 ?_
  intro j hj
  have : ((⟨g, 0, none⟩ : Addr).add j) = ⟨g, j, none⟩ := by simp [Addr.add]; intro h; exact h.symm
  rw [this, Lib.cell_of_heap h.1]
  have hl := h.2
  simp [fillCells, Lib.byteCells, List.getElem?_append_left, hj]
end Go.Proofs.YtdoddigmfckhmaaDoor
