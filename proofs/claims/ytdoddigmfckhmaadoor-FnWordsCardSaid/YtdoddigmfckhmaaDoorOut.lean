/-
  THE ENCODER's BLOCK of encoding/base64, of which the bytes written so far are told: in plain Lean over the model's worlds; no condition.
-/
import Derived.Test.YtdoddigmfckhmaaDoorEn2
import Derived.Test.YtdoddigmfckhmaaDoorAsm
import Derived.Test.YtdoddigmfckhmaaDoorPut
namespace Go.Proofs.YtdoddigmfckhmaaDoor
open Go.RowKit

/-- The encoder's block eb: seven cells ahead (pre), then the output's bytes, of which the first are 'done'. -/
def OutAt (eb : Nat) (pre : List Value) (done : List UInt8) (w : World) : Prop := pre.length = 7 ∧ ∃ tail : List Value, tail.length + done.length = 1024 ∧ w.heap[eb]? = some (.cells (pre ++ Lib.byteCells done ++ tail).toArray 72 (0, 0))
theorem bcLen (l : List UInt8) : (Lib.byteCells l).length = l.length := by simp [Lib.byteCells]
theorem OutAt.put {eb : Nat} {pre : List Value} {done : List UInt8} {w : World} (h : OutAt eb pre done w) (o : Nat) (ho : done.length + 7 = o) (hm : done.length < 1024) (c : UInt8) : OutAt eb pre (done ++ [c]) (w.setCell ⟨eb, o, none⟩ (.int .u8 (c.toNat : Int))) := by
  obtain ⟨hp, tail, ht, hw⟩ := h
  match tail, ht with
  | [], ht => simp at ht; omega
  | t0 :: tail, ht =>
    refine ⟨hp, tail, by simp at ht ⊢; omega, ?_⟩
    have e : (pre ++ Lib.byteCells done ++ t0 :: tail).toArray.setIfInBounds o (.int .u8 (c.toNat : Int)) = (pre ++ Lib.byteCells (done ++ [c]) ++ tail).toArray := by
      have hl : (pre ++ Lib.byteCells done).length = o := by rw [List.length_append, bcLen, hp]; omega
      rw [List.setIfInBounds_toArray, List.set_append_right _ _ (by omega), hl, Nat.sub_self]
      simp [Lib.byteCells]
    rw [← e]
    simp [World.setCell, Array.getElem?_modify, hw]
theorem OutAt.has {eb : Nat} {pre : List Value} {done : List UInt8} {w : World} (h : OutAt eb pre done w) (o : Nat) (hm : o < 1031) : ∃ v, w.cell? ⟨eb, o, none⟩ = some v := by
  obtain ⟨hp, tail, ht, hw⟩ := h
  rw [Lib.cell_of_heap hw, List.getElem?_toArray]
  exact ⟨_, List.getElem?_eq_getElem (by simp [bcLen]; omega)⟩
theorem OutAt.frozen {eb : Nat} {pre : List Value} {done : List UInt8} {w : World} (h : OutAt eb pre done w) (j : Nat) : w.frozen? ⟨eb, j, none⟩ = false := by
  obtain ⟨hp, tail, ht, hw⟩ := h
  exact Lib.frozen_of_heap hw j
theorem OutAt.pre {eb : Nat} {pre : List Value} {done : List UInt8} {w : World} (h : OutAt eb pre done w) (j : Nat) (hj : j < 7) : w.cell? ⟨eb, j, none⟩ = pre[j]? := by
  obtain ⟨hp, tail, ht, hw⟩ := h
  rw [Lib.cell_of_heap hw, List.getElem?_toArray, List.append_assoc, List.getElem?_append_left (by omega)]
theorem OutAt.out {eb : Nat} {pre : List Value} {done : List UInt8} {w : World} (h : OutAt eb pre done w) (j : Nat) (c : UInt8) (hj : done[j]? = some c) : w.cell? ⟨eb, 7 + j, none⟩ = some (.int .u8 (c.toNat : Int)) := by
  obtain ⟨hp, tail, ht, hw⟩ := h
  have hl : j < done.length := (List.getElem?_eq_some_iff.1 hj).1
  rw [Lib.cell_of_heap hw, List.getElem?_toArray, List.append_assoc, List.getElem?_append_right (by omega), hp, Nat.add_sub_cancel_left, List.getElem?_append_left (by rw [bcLen]; omega)]
  simp [Lib.byteCells, hj]
theorem OutAt.setPre {eb : Nat} {pre : List Value} {done : List UInt8} {w : World} (h : OutAt eb pre done w) (j : Nat) (hj : j < 7) (v : Value) : OutAt eb (pre.set j v) done (w.setCell ⟨eb, j, none⟩ v) := by
  obtain ⟨hp, tail, ht, hw⟩ := h
  refine ⟨by simp [hp], tail, ht, ?_⟩
  have e : (pre ++ Lib.byteCells done ++ tail).toArray.setIfInBounds j v = (pre.set j v ++ Lib.byteCells done ++ tail).toArray := by
    rw [List.setIfInBounds_toArray, List.append_assoc, List.set_append_left _ _ (by omega), ← List.append_assoc]
  rw [← e]
  simp [World.setCell, Array.getElem?_modify, hw]
theorem OutAt.lt {eb : Nat} {pre : List Value} {done : List UInt8} {w : World} (h : OutAt eb pre done w) : eb < w.heap.size := by
  obtain ⟨hp, tail, ht, hw⟩ := h
  rcases Nat.lt_or_ge eb w.heap.size with h1 | h1
  · exact h1
  · rw [Array.getElem?_eq_none h1] at hw; cases hw
/-- What is written is forgotten: the bytes lie there still, but of them nothing is told. -/
theorem OutAt.fresh {eb : Nat} {pre : List Value} {done : List UInt8} {w : World} (h : OutAt eb pre done w) : OutAt eb pre [] w := by
  obtain ⟨hp, tail, ht, hw⟩ := h
  exact ⟨hp, Lib.byteCells done ++ tail, by simp [bcLen]; omega, by rw [hw]; simp [Lib.byteCells]⟩
theorem OutAt.of_heap {eb : Nat} {pre : List Value} {done : List UInt8} {w w' : World} (h : OutAt eb pre done w) (e : w'.heap[eb]? = w.heap[eb]?) : OutAt eb pre done w' := by
  obtain ⟨hp, tail, ht, hw⟩ := h
  exact ⟨hp, tail, ht, by rw [e]; exact hw⟩
theorem OutAt.drewN {eb : Nat} {pre : List Value} {done : List UInt8} {w : World} (h : OutAt eb pre done w) (n : Nat) : OutAt eb pre done (w.drewN n) := h

theorem EncAt.keep {g d : Nat} {w w' : World} (h : EncAt g w) (ho : Only d w w') (hd : g ≠ d) : EncAt g w' := by
  have hg : g < w.heap.size := by
    rcases Nat.lt_or_ge g w.heap.size with h1 | h1
    · exact h1
    · unfold EncAt at h
      rw [Array.getElem?_eq_none h1] at h; cases h
  unfold EncAt
  rw [ho.2.2.2.2 g hg hd]; exact h
theorem enc_dig : ∀ n : Fin 64, (encInts 64)[n.val]? = some ((dig n.val).toNat : Int) := by decide +kernel
theorem EncAt.digit {g : Nat} {w : World} (h : EncAt g w) (n : Nat) (hn : n < 64) : w.cell? ⟨g, n, none⟩ = some (.int .u8 ((dig n).toNat : Int)) := by
  have e : (encRow 64)[n]? = (encInts 64)[n]?.map (Value.int .u8) := by
    unfold encRow
    rw [List.getElem?_toArray, List.getElem?_append_left (by rw [List.length_map, enc_len]; omega), List.getElem?_map]
  rw [Lib.cell_of_heap h, e, enc_dig ⟨n, hn⟩]
  rfl
theorem and63 (n : Nat) (h : n < 18446744073709551616) : bits .and .u64 (n : Int) 63 = ((n % 64 : Nat) : Int) := by
  have := u64_and_nat n 63 h (by omega)
  rw [nat_mask6] at this
  exact this
/-- Of 24 bits: how the encoder puts them together. -/
theorem val3 (a b c : Nat) (ha : a < 256) (hb : b < 256) (hc : c < 256) : bits .or .u64 (bits .or .u64 ((a : Int) * 65536) ((b : Int) * 256)) (c : Int) = ((a * 65536 + b * 256 + c : Nat) : Int) := by
  have k1 := join64 16 (a := a * 65536) (b := b * 256) (by omega) (by omega) (by omega) (by omega)
  have k2 := join64 8 (a := a * 65536 + b * 256) (b := c) (by omega) (by omega) (by omega) (by omega)
  simp only [Int.natCast_add, Int.natCast_mul, Int.cast_ofNat_Int] at k1 k2
  rw [k1, k2]
  omega
theorem val2 (a b : Nat) (ha : a < 256) (hb : b < 256) : bits .or .u64 ((a : Int) * 65536) ((b : Int) * 256) = ((a * 65536 + b * 256 : Nat) : Int) := by
  have k1 := join64 16 (a := a * 65536) (b := b * 256) (by omega) (by omega) (by omega) (by omega)
  simp only [Int.natCast_add, Int.natCast_mul, Int.cast_ofNat_Int] at k1
  rw [k1]
  omega
theorem b64_step (x : List UInt8) (q : Nat) (a b c : UInt8) (r : List UInt8) (h : x.drop (3 * q) = a :: b :: c :: r) : b64 (x.take (3 * (q + 1))) = b64 (x.take (3 * q)) ++ q4 (a.toNat * 65536 + b.toNat * 256 + c.toNat) := by
  induction q generalizing x with
  | zero =>
    rw [Nat.mul_zero, List.drop_zero] at h
    rw [h]
    simp [b64]
  | succ q ih =>
    match x, h with
    | [], h => simp at h
    | [_], h => simp [Nat.mul_succ] at h
    | [_, _], h => simp [Nat.mul_succ] at h
    | x0 :: x1 :: x2 :: y, h =>
      have e : ∀ k, (x0 :: x1 :: x2 :: y).take (3 * (k + 1)) = x0 :: x1 :: x2 :: y.take (3 * k) := fun k => by rw [show 3 * (k + 1) = 3 * k + 1 + 1 + 1 by omega]; rfl
      have e2 : (x0 :: x1 :: x2 :: y).drop (3 * (q + 1)) = y.drop (3 * q) := by rw [show 3 * (q + 1) = 3 * q + 1 + 1 + 1 by omega]; rfl
      rw [e2] at h
      rw [e (q + 1), e q, b64_three, b64_three, ih y h, List.append_assoc]
theorem b64_rest (x : List UInt8) (q : Nat) (h : 3 * q ≤ x.length) : b64 x = b64 (x.take (3 * q)) ++ b64 (x.drop (3 * q)) := by
  induction q generalizing x with
  | zero => simp [b64]
  | succ q ih =>
    match x, h with
    | [], h => simp at h
    | [_], h => simp [Nat.mul_succ] at h
    | [_, _], h => simp [Nat.mul_succ] at h
    | x0 :: x1 :: x2 :: y, h =>
      have e : (x0 :: x1 :: x2 :: y).take (3 * (q + 1)) = x0 :: x1 :: x2 :: y.take (3 * q) := by rw [show 3 * (q + 1) = 3 * q + 1 + 1 + 1 by omega]; rfl
      have e2 : (x0 :: x1 :: x2 :: y).drop (3 * (q + 1)) = y.drop (3 * q) := by rw [show 3 * (q + 1) = 3 * q + 1 + 1 + 1 by omega]; rfl
      simp only [List.length_cons] at h
      rw [e, e2, b64_three, b64_three, ih y (by omega), List.append_assoc]
end Go.Proofs.YtdoddigmfckhmaaDoor
