/-
  CONTRACTS OF internal/byteorder's BEPutUint32 and BEPutUint64 on a row that is filled from its beginning, where the last two bytes are noughts.
-/
import Derived.Test.YtdoddigmfckhmaaDoorFill
namespace Go.Proofs.YtdoddigmfckhmaaDoor
open Go.RowKit

/-- Of what lay there, block d alone may have changed. -/
def Only (d : Nat) (w w' : World) : Prop := w'.os = w.os ∧ w'.tape = w.tape ∧ w'.output = w.output ∧ w.heap.size ≤ w'.heap.size ∧ ∀ k, k < w.heap.size → k ≠ d → w'.heap[k]? = w.heap[k]?
theorem Only.refl (d : Nat) (w : World) : Only d w w := ⟨rfl, rfl, rfl, Nat.le_refl _, fun _ _ _ => rfl⟩
theorem Only.trans {d : Nat} {u v w : World} (h : Only d u v) (k : Only d v w) : Only d u w :=
  ⟨k.1.trans h.1, k.2.1.trans h.2.1, k.2.2.1.trans h.2.2.1, Nat.le_trans h.2.2.2.1 k.2.2.2.1, fun j h1 h2 => (k.2.2.2.2 j (Nat.lt_of_lt_of_le h1 h.2.2.2.1) h2).trans (h.2.2.2.2 j h1 h2)⟩
theorem Only.setCell {d : Nat} {w w' : World} (h : Only d w w') (j : Nat) (v : Value) : Only d w (w'.setCell ⟨d, j, none⟩ v) :=
  h.trans ⟨rfl, rfl, rfl, by simp [World.setCell], fun k _ h2 => by simp [World.setCell, Array.getElem?_modify, Ne.symm h2]⟩
theorem Only.drewN {d : Nat} {w w' : World} (h : Only d w w') (n : Nat) : Only d w (w'.drewN n) := h.trans ⟨rfl, rfl, rfl, Nat.le_refl _, fun _ _ _ => rfl⟩
theorem Only.of_below {d : Nat} {w w' : World} (h : Below w.heap.size w w') : Only d w w' := ⟨h.os, h.tape, h.output, h.size, fun k hk _ => h.block k hk⟩
theorem Only.below {d B : Nat} {w w' : World} (h : Only d w w') (hB : B ≤ d) (hd : d < w.heap.size) : Below B w w' :=
  ⟨h.1, h.2.1, h.2.2.1, h.2.2.2.1, fun k hk => h.2.2.2.2 k (by omega) (by omega)⟩

theorem fill_zero (m : Nat) (acc : List UInt8) (j : Nat) (h : acc.length ≤ j) (_ : j < m) : (fillCells m acc).setIfInBounds j (.int .u8 0) = fillCells m acc := by
  have hl : (Lib.byteCells acc).length = acc.length := by simp [Lib.byteCells]
  unfold fillCells
  rw [List.setIfInBounds_toArray, List.set_append_right _ _ (by omega), List.set_replicate_self]
theorem fill_zero_at (m : Nat) (acc : List UInt8) (j : Nat) (h : acc.length ≤ j) (hj : j < m) : (fillCells m acc)[j]? = some (.int .u8 0) := by
  have hl : (Lib.byteCells acc).length = acc.length := by simp [Lib.byteCells]
  unfold fillCells
  rw [List.getElem?_toArray, List.getElem?_append_right (by omega), hl, List.getElem?_replicate, if_pos (by omega)]
theorem Fills.cell' {g m : Nat} {acc : List UInt8} {w : World} (h : Fills g m acc w) (j : Nat) (hl : acc.length ≤ j) (hj : j < m) : w.cell? ⟨g, j, none⟩ = some (.int .u8 0) := by
  rw [Lib.cell_of_heap h.1, fill_zero_at m acc j hl hj]
theorem Fills.zero {g m : Nat} {acc : List UInt8} {w : World} (h : Fills g m acc w) (j : Nat) (hl : acc.length ≤ j) (hj : j < m) : Fills g m acc (w.setCell ⟨g, j, none⟩ (.int .u8 0)) := by
  refine ⟨?_, h.2⟩
  have := fill_zero m acc j hl hj
  rw [← this]
  simp [World.setCell, Array.getElem?_modify, h.1]

theorem Fills.put {g m : Nat} {acc : List UInt8} {w : World} (h : Fills g m acc w) (o : Nat) (ho : acc.length = o) (hm : o < m) (c : UInt8) : Fills g m (acc ++ [c]) (w.setCell ⟨g, o, none⟩ (.int .u8 (c.toNat : Int))) := by
  subst ho; exact h.step hm c
end Go.Proofs.YtdoddigmfckhmaaDoor
