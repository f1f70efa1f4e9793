/-
  CONTRACTS OF internal/byteorder's BEPutUint32 and BEPutUint64 on a row that is filled from its beginning, where the last two bytes are noughts.
-/
import Derived.Test.YtlapehcngmiaaaaDoorFill
namespace Go.Proofs.YtlapehcngmiaaaaDoor
open Go.RowKit

/-- Of what lay there, block d alone may have changed. -/
def Only (d : Nat) (w w' : World) : Prop := w'.os = w.os ∧ w'.tape = w.tape ∧ w'.output = w.output ∧ w.heap.size ≤ w'.heap.size ∧ ∀ k, k < w.heap.size → k ≠ d → w'.heap[k]? = w.heap[k]?
theorem Only.refl (d : Nat) (w : World) : Only d w w := ⟨rfl, rfl, rfl, Nat.le_refl _, fun _ _ _ => rfl⟩
theorem Only.trans {d : Nat} {u v w : World} (h : Only d u v) (k : Only d v w) : Only d u w :=
  ⟨k.1.trans h.1, k.2.1.trans h.2.1, k.2.2.1.trans h.2.2.1, Nat.le_trans h.2.2.2.1 k.2.2.2.1, fun j h1 h2 => (k.2.2.2.2 j (Nat.lt_of_lt_of_le h1 h.2.2.2.1) h2).trans (h.2.2.2.2 j h1 h2)⟩
theorem Only.setCell {d : Nat} {w w' : World} (h : Only d w w') (j : Nat) (v : Value) : Only d w (w'.setCell ⟨d, j, none⟩ v) :=
  h.trans ⟨rfl, rfl, rfl, by simp [World.setCell], fun k _ h2 => by simp [World.setCell, Array.getElem?_modify, Ne.symm h2]⟩
theorem Only.drewN {d : Nat} {w w' : World} (h : Only d w w') (n : Nat) : Only d w (w'.drewN n) := h.trans ⟨rfl, rfl, rfl, Nat.le_refl _, fun _ _ _ => rfl⟩
theorem Only.of_below {d : Nat} {w w' : World} (h : Below w.heap.size w w') : Only d w w' := ⟨h.os, h.tape, h.output, h.size, fun k hk _ => h.block k hk⟩
theorem Only.below {d B : Nat} {w w' : World} (h : Only d w w') (hB : B ≤ d) (hd : d < w.heap.size) : Below B w w' :=
  ⟨h.1, h.2.1, h.2.2.1, h.2.2.2.1, fun k hk => h.2.2.2.2 k (by omega) (by omega)⟩

theorem fill_zero (m : Nat) (acc : List UInt8) (j : Nat) (h : acc.length ≤ j) (_ : j < m) : (fillCells m acc).setIfInBounds j (.int .u8 0) = fillCells m acc := by
  have hl : (Lib.byteCells acc).length = acc.length := by simp [Lib.byteCells]
  unfold fillCells
  rw [List.setIfInBounds_toArray, List.set_append_right _ _ (by omega), List.set_replicate_self]
theorem fill_zero_at (m : Nat) (acc : List UInt8) (j : Nat) (h : acc.length ≤ j) (hj : j < m) : (fillCells m acc)[j]? = some (.int .u8 0) := by
  have hl : (Lib.byteCells acc).length = acc.length := by simp [Lib.byteCells]
  unfold fillCells
  rw [List.getElem?_toArray, List.getElem?_append_right (by omega), hl, List.getElem?_replicate, if_pos (by omega)]
theorem Fills.cell' {g m : Nat} {acc : List UInt8} {w : World} (h : Fills g m acc w) (j : Nat) (hl : acc.length ≤ j) (hj : j < m) : w.cell? ⟨g, j, none⟩ = some (.int .u8 0) := by
  rw [Lib.cell_of_heap h.1, fill_zero_at m acc j hl hj]
theorem Fills.zero {g m : Nat} {acc : List UInt8} {w : World} (h : Fills g m acc w) (j : Nat) (hl : acc.length ≤ j) (hj : j < m) : Fills g m acc (w.setCell ⟨g, j, none⟩ (.int .u8 0)) := by
  refine ⟨?_, h.2⟩
  have := fill_zero m acc j hl hj
  rw [← this]
  simp [World.setCell, Array.getElem?_modify, h.1]

theorem Fills.put {g m : Nat} {acc : List UInt8} {w : World} (h : Fills g m acc w) (o : Nat) (ho : acc.length = o) (hm : o < m) (c : UInt8) : Fills g m (acc ++ [c]) (w.setCell ⟨g, o, none⟩ (.int .u8 (c.toNat : Int))) := by
  subst ho; exact h.step hm c
set_option maxHeartbeats 2000000 in
theorem put32_c (x y z : UInt8) (V : Int) (g m : Nat) (acc : List UInt8) (o n k : Nat) (w : World) (hf : Fills g m acc w) (ho : acc.length = o) (hm : o + 4 ≤ m) (hn : 4 ≤ n) (h0 : 0 ≤ V) (h1 : V < 4294967296)
    (v0 : V / 16777216 = (x.toNat : Int)) (v1 : V / 65536 % 256 = (y.toNat : Int)) (v2 : V / 256 % 256 = (z.toNat : Int)) (v3 : V % 256 = 0) :
    Calls Tryd.prog 72 #[.slice (some ⟨g, o, none⟩) n k, .int .u32 V] w (fun e w' => e = .returned (.tuple #[]) ∧ Fills g m (acc ++ [x, y, z]) w' ∧ Only g w w') := by
  have hc := hf.cell' (o + 3) (by omega) (by omega)
  have c0 : (w).cell? ⟨g, o, none⟩ = some (.int .u8 0) := hf.cell' _ (by omega) (by omega)
  have q0 : (w).frozen? ⟨g, o, none⟩ = false := hf.frozen _
  have f1 : Fills g m (acc ++ [x]) ((w).setCell ⟨g, o, none⟩ (.int .u8 (x.toNat : Int))) := hf.put _ ho (by omega) _
  have l1 : (acc ++ [x]).length = o + 1 := by rw [List.length_append, ho]; rfl
  have c1 : ((w).setCell ⟨g, o, none⟩ (.int .u8 (x.toNat : Int))).cell? ⟨g, o + 1, none⟩ = some (.int .u8 0) := f1.cell' _ (by rw [l1]; omega) (by omega)
  have q1 : ((w).setCell ⟨g, o, none⟩ (.int .u8 (x.toNat : Int))).frozen? ⟨g, o + 1, none⟩ = false := f1.frozen _
  have f2 : Fills g m (acc ++ [x] ++ [y]) (((w).setCell ⟨g, o, none⟩ (.int .u8 (x.toNat : Int))).setCell ⟨g, o + 1, none⟩ (.int .u8 (y.toNat : Int))) := f1.put _ l1 (by omega) _
  have l2 : (acc ++ [x] ++ [y]).length = o + 2 := by rw [List.length_append, l1]; rfl
  have c2 : (((w).setCell ⟨g, o, none⟩ (.int .u8 (x.toNat : Int))).setCell ⟨g, o + 1, none⟩ (.int .u8 (y.toNat : Int))).cell? ⟨g, o + 2, none⟩ = some (.int .u8 0) := f2.cell' _ (by rw [l2]; omega) (by omega)
  have q2 : (((w).setCell ⟨g, o, none⟩ (.int .u8 (x.toNat : Int))).setCell ⟨g, o + 1, none⟩ (.int .u8 (y.toNat : Int))).frozen? ⟨g, o + 2, none⟩ = false := f2.frozen _
  have f3 : Fills g m (acc ++ [x] ++ [y] ++ [z]) ((((w).setCell ⟨g, o, none⟩ (.int .u8 (x.toNat : Int))).setCell ⟨g, o + 1, none⟩ (.int .u8 (y.toNat : Int))).setCell ⟨g, o + 2, none⟩ (.int .u8 (z.toNat : Int))) := f2.put _ l2 (by omega) _
  have l3 : (acc ++ [x] ++ [y] ++ [z]).length = o + 3 := by rw [List.length_append, l2]; rfl
  have c3 : ((((w).setCell ⟨g, o, none⟩ (.int .u8 (x.toNat : Int))).setCell ⟨g, o + 1, none⟩ (.int .u8 (y.toNat : Int))).setCell ⟨g, o + 2, none⟩ (.int .u8 (z.toNat : Int))).cell? ⟨g, o + 3, none⟩ = some (.int .u8 0) := f3.cell' _ (by rw [l3]; omega) (by omega)
  have q3 : ((((w).setCell ⟨g, o, none⟩ (.int .u8 (x.toNat : Int))).setCell ⟨g, o + 1, none⟩ (.int .u8 (y.toNat : Int))).setCell ⟨g, o + 2, none⟩ (.int .u8 (z.toNat : Int))).frozen? ⟨g, o + 3, none⟩ = false := f3.frozen _
  have f4 : Fills g m (acc ++ [x] ++ [y] ++ [z]) (((((w).setCell ⟨g, o, none⟩ (.int .u8 (x.toNat : Int))).setCell ⟨g, o + 1, none⟩ (.int .u8 (y.toNat : Int))).setCell ⟨g, o + 2, none⟩ (.int .u8 (z.toNat : Int))).setCell ⟨g, o + 3, none⟩ (.int .u8 0)) := f3.zero _ (by rw [l3]; omega) (by omega)
  have HB : Hid (Only g w (((((w).setCell ⟨g, o, none⟩ (.int .u8 (x.toNat : Int))).setCell ⟨g, o + 1, none⟩ (.int .u8 (y.toNat : Int))).setCell ⟨g, o + 2, none⟩ (.int .u8 (z.toNat : Int))).setCell ⟨g, o + 3, none⟩ (.int .u8 0))) := Lib.hid (((((Only.refl g w).setCell _ _).setCell _ _).setCell _ _).setCell _ _)
  have HF := Lib.hid f4
  clear hf f1 f2 f3 f4 ho
  go_enter Tryd.func72, Tryd.ntmps72
  go_wp2
  go_end0
  refine ⟨rfl, ?_, HB.out⟩
  simpa using HF.out
set_option maxHeartbeats 2000000 in
theorem put64_c (x y z a b c : UInt8) (V : Int) (g m : Nat) (acc : List UInt8) (o n k : Nat) (w : World) (hf : Fills g m acc w) (ho : acc.length = o) (hm : o + 8 ≤ m) (hn : 8 ≤ n) (h0 : 0 ≤ V) (h1 : V < 18446744073709551616)
    (v0 : V / 72057594037927936 = (x.toNat : Int)) (v1 : V / 281474976710656 % 256 = (y.toNat : Int)) (v2 : V / 1099511627776 % 256 = (z.toNat : Int)) (v3 : V / 4294967296 % 256 = (a.toNat : Int)) (v4 : V / 16777216 % 256 = (b.toNat : Int)) (v5 : V / 65536 % 256 = (c.toNat : Int)) (v6 : V / 256 % 256 = 0) (v7 : V % 256 = 0) :
    Calls Tryd.prog 69 #[.slice (some ⟨g, o, none⟩) n k, .int .u64 V] w (fun e w' => e = .returned (.tuple #[]) ∧ Fills g m (acc ++ [x, y, z, a, b, c]) w' ∧ Only g w w') := by
  have hc := hf.cell' (o + 7) (by omega) (by omega)
  have c0 : (w).cell? ⟨g, o, none⟩ = some (.int .u8 0) := hf.cell' _ (by omega) (by omega)
  have q0 : (w).frozen? ⟨g, o, none⟩ = false := hf.frozen _
  have f1 : Fills g m (acc ++ [x]) ((w).setCell ⟨g, o, none⟩ (.int .u8 (x.toNat : Int))) := hf.put _ ho (by omega) _
  have l1 : (acc ++ [x]).length = o + 1 := by rw [List.length_append, ho]; rfl
  have c1 : ((w).setCell ⟨g, o, none⟩ (.int .u8 (x.toNat : Int))).cell? ⟨g, o + 1, none⟩ = some (.int .u8 0) := f1.cell' _ (by rw [l1]; omega) (by omega)
  have q1 : ((w).setCell ⟨g, o, none⟩ (.int .u8 (x.toNat : Int))).frozen? ⟨g, o + 1, none⟩ = false := f1.frozen _
  have f2 : Fills g m (acc ++ [x] ++ [y]) (((w).setCell ⟨g, o, none⟩ (.int .u8 (x.toNat : Int))).setCell ⟨g, o + 1, none⟩ (.int .u8 (y.toNat : Int))) := f1.put _ l1 (by omega) _
  have l2 : (acc ++ [x] ++ [y]).length = o + 2 := by rw [List.length_append, l1]; rfl
  have c2 : (((w).setCell ⟨g, o, none⟩ (.int .u8 (x.toNat : Int))).setCell ⟨g, o + 1, none⟩ (.int .u8 (y.toNat : Int))).cell? ⟨g, o + 2, none⟩ = some (.int .u8 0) := f2.cell' _ (by rw [l2]; omega) (by omega)
  have q2 : (((w).setCell ⟨g, o, none⟩ (.int .u8 (x.toNat : Int))).setCell ⟨g, o + 1, none⟩ (.int .u8 (y.toNat : Int))).frozen? ⟨g, o + 2, none⟩ = false := f2.frozen _
  have f3 : Fills g m (acc ++ [x] ++ [y] ++ [z]) ((((w).setCell ⟨g, o, none⟩ (.int .u8 (x.toNat : Int))).setCell ⟨g, o + 1, none⟩ (.int .u8 (y.toNat : Int))).setCell ⟨g, o + 2, none⟩ (.int .u8 (z.toNat : Int))) := f2.put _ l2 (by omega) _
  have l3 : (acc ++ [x] ++ [y] ++ [z]).length = o + 3 := by rw [List.length_append, l2]; rfl
  have c3 : ((((w).setCell ⟨g, o, none⟩ (.int .u8 (x.toNat : Int))).setCell ⟨g, o + 1, none⟩ (.int .u8 (y.toNat : Int))).setCell ⟨g, o + 2, none⟩ (.int .u8 (z.toNat : Int))).cell? ⟨g, o + 3, none⟩ = some (.int .u8 0) := f3.cell' _ (by rw [l3]; omega) (by omega)
  have q3 : ((((w).setCell ⟨g, o, none⟩ (.int .u8 (x.toNat : Int))).setCell ⟨g, o + 1, none⟩ (.int .u8 (y.toNat : Int))).setCell ⟨g, o + 2, none⟩ (.int .u8 (z.toNat : Int))).frozen? ⟨g, o + 3, none⟩ = false := f3.frozen _
  have f4 : Fills g m (acc ++ [x] ++ [y] ++ [z] ++ [a]) (((((w).setCell ⟨g, o, none⟩ (.int .u8 (x.toNat : Int))).setCell ⟨g, o + 1, none⟩ (.int .u8 (y.toNat : Int))).setCell ⟨g, o + 2, none⟩ (.int .u8 (z.toNat : Int))).setCell ⟨g, o + 3, none⟩ (.int .u8 (a.toNat : Int))) := f3.put _ l3 (by omega) _
  have l4 : (acc ++ [x] ++ [y] ++ [z] ++ [a]).length = o + 4 := by rw [List.length_append, l3]; rfl
  have c4 : (((((w).setCell ⟨g, o, none⟩ (.int .u8 (x.toNat : Int))).setCell ⟨g, o + 1, none⟩ (.int .u8 (y.toNat : Int))).setCell ⟨g, o + 2, none⟩ (.int .u8 (z.toNat : Int))).setCell ⟨g, o + 3, none⟩ (.int .u8 (a.toNat : Int))).cell? ⟨g, o + 4, none⟩ = some (.int .u8 0) := f4.cell' _ (by rw [l4]; omega) (by omega)
  have q4 : (((((w).setCell ⟨g, o, none⟩ (.int .u8 (x.toNat : Int))).setCell ⟨g, o + 1, none⟩ (.int .u8 (y.toNat : Int))).setCell ⟨g, o + 2, none⟩ (.int .u8 (z.toNat : Int))).setCell ⟨g, o + 3, none⟩ (.int .u8 (a.toNat : Int))).frozen? ⟨g, o + 4, none⟩ = false := f4.frozen _
  have f5 : Fills g m (acc ++ [x] ++ [y] ++ [z] ++ [a] ++ [b]) ((((((w).setCell ⟨g, o, none⟩ (.int .u8 (x.toNat : Int))).setCell ⟨g, o + 1, none⟩ (.int .u8 (y.toNat : Int))).setCell ⟨g, o + 2, none⟩ (.int .u8 (z.toNat : Int))).setCell ⟨g, o + 3, none⟩ (.int .u8 (a.toNat : Int))).setCell ⟨g, o + 4, none⟩ (.int .u8 (b.toNat : Int))) := f4.put _ l4 (by omega) _
  have l5 : (acc ++ [x] ++ [y] ++ [z] ++ [a] ++ [b]).length = o + 5 := by rw [List.length_append, l4]; rfl
  have c5 : ((((((w).setCell ⟨g, o, none⟩ (.int .u8 (x.toNat : Int))).setCell ⟨g, o + 1, none⟩ (.int .u8 (y.toNat : Int))).setCell ⟨g, o + 2, none⟩ (.int .u8 (z.toNat : Int))).setCell ⟨g, o + 3, none⟩ (.int .u8 (a.toNat : Int))).setCell ⟨g, o + 4, none⟩ (.int .u8 (b.toNat : Int))).cell? ⟨g, o + 5, none⟩ = some (.int .u8 0) := f5.cell' _ (by rw [l5]; omega) (by omega)
  have q5 : ((((((w).setCell ⟨g, o, none⟩ (.int .u8 (x.toNat : Int))).setCell ⟨g, o + 1, none⟩ (.int .u8 (y.toNat : Int))).setCell ⟨g, o + 2, none⟩ (.int .u8 (z.toNat : Int))).setCell ⟨g, o + 3, none⟩ (.int .u8 (a.toNat : Int))).setCell ⟨g, o + 4, none⟩ (.int .u8 (b.toNat : Int))).frozen? ⟨g, o + 5, none⟩ = false := f5.frozen _
  have f6 : Fills g m (acc ++ [x] ++ [y] ++ [z] ++ [a] ++ [b] ++ [c]) (((((((w).setCell ⟨g, o, none⟩ (.int .u8 (x.toNat : Int))).setCell ⟨g, o + 1, none⟩ (.int .u8 (y.toNat : Int))).setCell ⟨g, o + 2, none⟩ (.int .u8 (z.toNat : Int))).setCell ⟨g, o + 3, none⟩ (.int .u8 (a.toNat : Int))).setCell ⟨g, o + 4, none⟩ (.int .u8 (b.toNat : Int))).setCell ⟨g, o + 5, none⟩ (.int .u8 (c.toNat : Int))) := f5.put _ l5 (by omega) _
  have l6 : (acc ++ [x] ++ [y] ++ [z] ++ [a] ++ [b] ++ [c]).length = o + 6 := by rw [List.length_append, l5]; rfl
  have c6 : (((((((w).setCell ⟨g, o, none⟩ (.int .u8 (x.toNat : Int))).setCell ⟨g, o + 1, none⟩ (.int .u8 (y.toNat : Int))).setCell ⟨g, o + 2, none⟩ (.int .u8 (z.toNat : Int))).setCell ⟨g, o + 3, none⟩ (.int .u8 (a.toNat : Int))).setCell ⟨g, o + 4, none⟩ (.int .u8 (b.toNat : Int))).setCell ⟨g, o + 5, none⟩ (.int .u8 (c.toNat : Int))).cell? ⟨g, o + 6, none⟩ = some (.int .u8 0) := f6.cell' _ (by rw [l6]; omega) (by omega)
  have q6 : (((((((w).setCell ⟨g, o, none⟩ (.int .u8 (x.toNat : Int))).setCell ⟨g, o + 1, none⟩ (.int .u8 (y.toNat : Int))).setCell ⟨g, o + 2, none⟩ (.int .u8 (z.toNat : Int))).setCell ⟨g, o + 3, none⟩ (.int .u8 (a.toNat : Int))).setCell ⟨g, o + 4, none⟩ (.int .u8 (b.toNat : Int))).setCell ⟨g, o + 5, none⟩ (.int .u8 (c.toNat : Int))).frozen? ⟨g, o + 6, none⟩ = false := f6.frozen _
  have f7 : Fills g m (acc ++ [x] ++ [y] ++ [z] ++ [a] ++ [b] ++ [c]) ((((((((w).setCell ⟨g, o, none⟩ (.int .u8 (x.toNat : Int))).setCell ⟨g, o + 1, none⟩ (.int .u8 (y.toNat : Int))).setCell ⟨g, o + 2, none⟩ (.int .u8 (z.toNat : Int))).setCell ⟨g, o + 3, none⟩ (.int .u8 (a.toNat : Int))).setCell ⟨g, o + 4, none⟩ (.int .u8 (b.toNat : Int))).setCell ⟨g, o + 5, none⟩ (.int .u8 (c.toNat : Int))).setCell ⟨g, o + 6, none⟩ (.int .u8 0)) := f6.zero _ (by rw [l6]; omega) (by omega)
  have c7 : ((((((((w).setCell ⟨g, o, none⟩ (.int .u8 (x.toNat : Int))).setCell ⟨g, o + 1, none⟩ (.int .u8 (y.toNat : Int))).setCell ⟨g, o + 2, none⟩ (.int .u8 (z.toNat : Int))).setCell ⟨g, o + 3, none⟩ (.int .u8 (a.toNat : Int))).setCell ⟨g, o + 4, none⟩ (.int .u8 (b.toNat : Int))).setCell ⟨g, o + 5, none⟩ (.int .u8 (c.toNat : Int))).setCell ⟨g, o + 6, none⟩ (.int .u8 0)).cell? ⟨g, o + 7, none⟩ = some (.int .u8 0) := f7.cell' _ (by rw [l6]; omega) (by omega)
  have q7 : ((((((((w).setCell ⟨g, o, none⟩ (.int .u8 (x.toNat : Int))).setCell ⟨g, o + 1, none⟩ (.int .u8 (y.toNat : Int))).setCell ⟨g, o + 2, none⟩ (.int .u8 (z.toNat : Int))).setCell ⟨g, o + 3, none⟩ (.int .u8 (a.toNat : Int))).setCell ⟨g, o + 4, none⟩ (.int .u8 (b.toNat : Int))).setCell ⟨g, o + 5, none⟩ (.int .u8 (c.toNat : Int))).setCell ⟨g, o + 6, none⟩ (.int .u8 0)).frozen? ⟨g, o + 7, none⟩ = false := f7.frozen _
  have f8 : Fills g m (acc ++ [x] ++ [y] ++ [z] ++ [a] ++ [b] ++ [c]) (((((((((w).setCell ⟨g, o, none⟩ (.int .u8 (x.toNat : Int))).setCell ⟨g, o + 1, none⟩ (.int .u8 (y.toNat : Int))).setCell ⟨g, o + 2, none⟩ (.int .u8 (z.toNat : Int))).setCell ⟨g, o + 3, none⟩ (.int .u8 (a.toNat : Int))).setCell ⟨g, o + 4, none⟩ (.int .u8 (b.toNat : Int))).setCell ⟨g, o + 5, none⟩ (.int .u8 (c.toNat : Int))).setCell ⟨g, o + 6, none⟩ (.int .u8 0)).setCell ⟨g, o + 7, none⟩ (.int .u8 0)) := f7.zero _ (by rw [l6]; omega) (by omega)
  have HB : Hid (Only g w (((((((((w).setCell ⟨g, o, none⟩ (.int .u8 (x.toNat : Int))).setCell ⟨g, o + 1, none⟩ (.int .u8 (y.toNat : Int))).setCell ⟨g, o + 2, none⟩ (.int .u8 (z.toNat : Int))).setCell ⟨g, o + 3, none⟩ (.int .u8 (a.toNat : Int))).setCell ⟨g, o + 4, none⟩ (.int .u8 (b.toNat : Int))).setCell ⟨g, o + 5, none⟩ (.int .u8 (c.toNat : Int))).setCell ⟨g, o + 6, none⟩ (.int .u8 0)).setCell ⟨g, o + 7, none⟩ (.int .u8 0))) := Lib.hid (((((((((Only.refl g w).setCell _ _).setCell _ _).setCell _ _).setCell _ _).setCell _ _).setCell _ _).setCell _ _).setCell _ _)
  have HF := Lib.hid f8
  clear hf f1 f2 f3 f4 f5 f6 f7 f8 ho
  go_enter Tryd.func69, Tryd.ntmps69
  go_wp2
  go_end0
  refine ⟨rfl, ?_, HB.out⟩
  simpa using HF.out
end Go.Proofs.YtlapehcngmiaaaaDoor
