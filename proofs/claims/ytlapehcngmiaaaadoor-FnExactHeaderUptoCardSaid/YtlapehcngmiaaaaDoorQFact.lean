/-
  THE WORLDS OF decodeQuantum's CALL, as QFacts asks for them; and the call at the last quad, for every rest of one to three bytes.
-/
import Derived.Test.YtlapehcngmiaaaaDoorQuanB
import Derived.Test.YtlapehcngmiaaaaDoorPut
namespace Go.Proofs.YtlapehcngmiaaaaDoor
open Go.RowKit

theorem EncAt.only {e d : Nat} {w w' : World} (h : EncAt e w) (ho : Only d w w') (he : e ≠ d) : EncAt e w' := by
  have hel : e < w.heap.size := by
    rcases Nat.lt_or_ge e w.heap.size with h1 | h1
    · exact h1
    · unfold EncAt at h
      rw [Array.getElem?_eq_none h1] at h; cases h
  unfold EncAt
  rw [ho.2.2.2.2 e hel he]; exact h

/-- The bytes of t lie at the head of block b. -/
def SrcAt (b : Nat) (t : ByteArray) (w : World) : Prop := b < w.heap.size ∧ ∀ (j : Nat) (h : j < t.size), w.cell? ⟨b, j, none⟩ = some (.int .u8 (t[j].toNat : Int))
theorem SrcAt.below {b : Nat} {t : ByteArray} {w w' : World} (h : SrcAt b t w) (hb : Below w.heap.size w w') : SrcAt b t w' :=
  ⟨Nat.lt_of_lt_of_le h.1 hb.size, fun j hj => (hb.cell (p := ⟨b, j, none⟩) h.1).trans (h.2 j hj)⟩

theorem SrcAt.only {b d : Nat} {t : ByteArray} {w w' : World} (h : SrcAt b t w) (ho : Only d w w') (hb : b ≠ d) : SrcAt b t w' :=
  ⟨Nat.lt_of_lt_of_le h.1 ho.2.2.2.1, fun j hj => by
    have := h.2 j hj
    unfold World.cell? at this ⊢
    rw [ho.2.2.2.2 b h.1 hb]; exact this⟩

theorem setRow_setCell (w : World) (d j : Nat) (R : Array Value) (v : Value) : (w.setRow d R).setCell ⟨d, j, none⟩ v = w.setRow d (R.setIfInBounds j v) := by
  unfold World.setCell World.setRow
  congr 1
  apply Array.ext_getElem?
  intro k
  simp only [Array.getElem?_modify]
  split
  · cases w.heap[k]? with
    | none => rfl
    | some o => cases o <;> simp
  · rfl

section
variable {w : World} {d : Nat} {acc : List UInt8} (hd : Fills d (acc.length + 3) acc w)
theorem fills_lt {g m : Nat} {acc : List UInt8} {w : World} (h : Fills g m acc w) : g < w.heap.size := by
  rcases Nat.lt_or_ge g w.heap.size with h1 | h1
  · exact h1
  · have := h.1
    rw [Array.getElem?_eq_none h1] at this
    cases this
include hd
theorem q_row (x y z a b c f : Value) (n : Nat) : (qWorld w d acc x y z a b c f n).heap[d]? = some (.cells (row3 acc x y z) 5 (0, 0)) := by
  have hlt := fills_lt hd
  show ((w.setRow d (row3 acc x y z)).heap.push _)[d]? = _
  rw [Array.getElem?_push, if_neg (by rw [setRow_size]; omega)]
  exact setRow_heap w d _ _ _ _ hd.1
omit hd in
theorem q_new (x y z a b c f : Value) (n : Nat) : (qWorld w d acc x y z a b c f n).heap[w.heap.size]? = some (.cells #[a, b, c, f] 146 (0, 0)) := by
  show ((w.setRow d (row3 acc x y z)).heap.push _)[w.heap.size]? = _
  rw [Array.getElem?_push, if_pos (by rw [setRow_size])]
omit hd in
theorem q_old (x y z a b c f : Value) (n k : Nat) (hk : k < w.heap.size) (hkd : k ≠ d) : (qWorld w d acc x y z a b c f n).heap[k]? = w.heap[k]? := by
  show ((w.setRow d (row3 acc x y z)).heap.push _)[k]? = _
  rw [Array.getElem?_push, if_neg (by rw [setRow_size]; omega)]
  exact setRow_other w d k _ hkd
theorem q_setd (x y z a b c f v : Value) (n j : Nat) : (qWorld w d acc x y z a b c f n).setCell ⟨d, acc.length + j, none⟩ v = ((w.setRow d (Lib.byteCells acc ++ [x, y, z].set j v).toArray).alloc (.cells #[a, b, c, f] 146)).drewN n := by
  show (((w.setRow d (row3 acc x y z)).alloc (.cells #[a, b, c, f] 146)).setCell ⟨d, acc.length + j, none⟩ v).drewN n = _
  rw [World.setCell_alloc_past _ _ _ _ (by rw [setRow_size]; exact fills_lt hd), setRow_setCell, row3_set]
omit hd in
theorem q_setn (x y z a b c f v : Value) (n j : Nat) : (qWorld w d acc x y z a b c f n).setCell ⟨w.heap.size, j, none⟩ v = ((w.setRow d (row3 acc x y z)).alloc (.cells (#[a, b, c, f].setIfInBounds j v) 146)).drewN n := by
  show (((w.setRow d (row3 acc x y z)).alloc (.cells #[a, b, c, f] 146)).setCell ⟨w.heap.size, j, none⟩ v).drewN n = _
  rw [World.setCell_alloc_at _ _ _ _ _ (by rw [setRow_size])]

theorem qFacts (e b p : Nat) (t : ByteArray) (hE : EncAt e w) (he : e ≠ d) (hS : SrcAt b t w) (hb : b ≠ d) (hp : p + 4 = t.size) :
    QFacts (qWorld w d acc) w d e b acc.length p (p + 4) ((List.range 256).map fun c => Value.int .u8 (undig (UInt8.ofNat c) : Int)) t[p] t[p + 1] t[p + 2] t[p + 3] := by
  have hel : e < w.heap.size := by
    rcases Nat.lt_or_ge e w.heap.size with h1 | h1
    · exact h1
    · have := hE
      unfold EncAt at this
      rw [Array.getElem?_eq_none h1] at this; cases this
  have E : ∀ x y z a b c f n, EncAt e (qWorld w d acc x y z a b c f n) := fun x y z a b c f n => by
    unfold EncAt
    rw [q_old x y z a b c f n e hel he]; exact hE
  have S : ∀ x y z a b' c f n j (hj : j < t.size), (qWorld w d acc x y z a b' c f n).cell? ⟨b, j, none⟩ = some (.int .u8 (t[j].toNat : Int)) := fun x y z a b' c f n j hj => by
    have h := hS.2 j hj
    unfold World.cell? at h ⊢
    rw [q_old x y z a b' c f n b hS.1 hb]; exact h
  have D : ∀ x y z a b c f n j, (qWorld w d acc x y z a b c f n).cell? ⟨d, acc.length + j, none⟩ = [x, y, z][j]? := fun x y z a b c f n j => by
    rw [Lib.cell_of_heap (q_row hd x y z a b c f n), row3_at]
  constructor
  · show _ = ((w.setRow d (row3 acc _ _ _)).alloc _).drewN 0
    rw [setRow_self w d _ 5 (0, 0) (by rw [← row3_start]; exact hd.1)]
    rfl
  · intro x y z a b c f n k
    show (World.drewN _ n).drewN k = World.drewN _ (n + k)
    rw [World.drewN_drewN]
  · intro x y z a b c f n; rfl
  · intro x y z a b c f n; exact D x y z a b c f n 0
  · intro x y z a b c f n; exact D x y z a b c f n 1
  · intro x y z a b c f n; exact D x y z a b c f n 2
  · intro x y z a b c f n v; exact q_setd hd x y z a b c f v n 0
  · intro x y z a b c f n v; exact q_setd hd x y z a b c f v n 1
  · intro x y z a b c f n v; exact q_setd hd x y z a b c f v n 2
  · intro x y z a b c f n; exact Lib.frozen_of_heap (q_row hd x y z a b c f n) _
  · intro x y z a b c f n; exact Lib.frozen_of_heap (q_row hd x y z a b c f n) _
  · intro x y z a b c f n; exact Lib.frozen_of_heap (q_row hd x y z a b c f n) _
  · intro x y z a b c f n; rw [Lib.cell_of_heap (q_new x y z a b c f n)]; rfl
  · intro x y z a b c f n; rw [Lib.cell_of_heap (q_new x y z a b c f n)]; rfl
  · intro x y z a b c f n; rw [Lib.cell_of_heap (q_new x y z a b c f n)]; rfl
  · intro x y z a b c f n; rw [Lib.cell_of_heap (q_new x y z a b c f n)]; rfl
  · intro x y z a b c f n v; exact q_setn x y z a b c f v n 0
  · intro x y z a b c f n v; exact q_setn x y z a b c f v n 1
  · intro x y z a b c f n v; exact q_setn x y z a b c f v n 2
  · intro x y z a b c f n v; exact q_setn x y z a b c f v n 3
  · intro x y z a b c f n k; exact Lib.frozen_of_heap (q_new x y z a b c f n) _
  · intro x y z a b c f n j v hj
    have hl : j < 256 := by
      rcases Nat.lt_or_ge j 256 with h1 | h1
      · exact h1
      · rw [List.getElem?_eq_none (by simpa using h1)] at hj; cases hj
    have : v = .int .u8 (undig (UInt8.ofNat j) : Int) := by
      simp [hl] at hj
      exact hj.symm
    rw [this]
    exact (E x y z a b c f n).map j hl
  · simp
  · intro x y z a b c f n t; exact (E x y z a b c f n).byte t
  · intro x y z a b c f n; exact (E x y z a b c f n).pad
  · intro x y z a b c f n; exact (E x y z a b c f n).strict
  · intro x y z a b' c f n; exact S x y z a b' c f n p (by omega)
  · intro x y z a b' c f n; exact S x y z a b' c f n (p + 1) (by omega)
  · intro x y z a b' c f n; exact S x y z a b' c f n (p + 2) (by omega)
  · intro x y z a b' c f n; exact S x y z a b' c f n (p + 3) (by omega)

/-- What the row holds behind the call. -/
theorem q_fills (x : List UInt8) (u v z : Value) (a b c f : Value) (n : Nat) (h : row3 acc u v z = fillCells (acc.length + 3) (acc ++ x)) (hx : x.length ≤ 3) : Fills d (acc.length + 3) (acc ++ x) (qWorld w d acc u v z a b c f n) :=
  ⟨by rw [q_row hd, h], by simp; omega⟩
omit hd in
theorem q_only (u v z : Value) (a b c f : Value) (n : Nat) : Only d w (qWorld w d acc u v z a b c f n) := by
  refine ⟨rfl, rfl, rfl, ?_, fun k hk hkd => q_old u v z a b c f n k hk hkd⟩
  show w.heap.size ≤ ((w.setRow d (row3 acc u v z)).heap.push _).size
  rw [Array.size_push, setRow_size]; omega
end
theorem row3_three (acc : List UInt8) (a b c : UInt8) : row3 acc (.int .u8 (a.toNat : Int)) (.int .u8 (b.toNat : Int)) (.int .u8 (c.toNat : Int)) = fillCells (acc.length + 3) (acc ++ [a, b, c]) := by
  unfold row3 fillCells
  rw [show acc.length + 3 - (acc ++ [a, b, c]).length = 0 by simp]
  simp [Lib.byteCells]
theorem row3_two (acc : List UInt8) (a b : UInt8) : row3 acc (.int .u8 (a.toNat : Int)) (.int .u8 (b.toNat : Int)) (.int .u8 0) = fillCells (acc.length + 3) (acc ++ [a, b]) := by
  unfold row3 fillCells
  rw [show acc.length + 3 - (acc ++ [a, b]).length = 1 by simp]
  simp [Lib.byteCells]
theorem row3_one (acc : List UInt8) (a : UInt8) : row3 acc (.int .u8 (a.toNat : Int)) (.int .u8 0) (.int .u8 0) = fillCells (acc.length + 3) (acc ++ [a]) := by
  unfold row3 fillCells
  rw [show acc.length + 3 - (acc ++ [a]).length = 2 by simp]
  simp [Lib.byteCells]

/-- THE CALL AT THE LAST QUAD. -/
theorem quan_c (w : World) (d e b p kd kb : Nat) (acc x : List UInt8) (t : ByteArray) (hd : Fills d (acc.length + 3) acc w) (hE : EncAt e w) (he : e ≠ d) (hS : SrcAt b t w) (hb : b ≠ d) (hp : p + 4 = t.size)
    (ht : t.size ≤ 4398046511104) (hkb : t.size ≤ kb) (hx : (L t).drop p = b64 x) (h1 : 1 ≤ x.length) (h3 : x.length ≤ 3) :
    Calls Tryd.prog 70 #[.pointer (some ⟨e, 0, none⟩), .slice (some ⟨d, acc.length, none⟩) 3 kd, .slice (some ⟨b, 0, none⟩) t.size kb, .int .i64 (p : Int)] w
      (fun r w' => r = .returned (.tuple #[.int .i64 (t.size : Int), .int .i64 (x.length : Int), .nilIface]) ∧ Fills d (acc.length + 3) (acc ++ x) w' ∧ Only d w w') := by
  have F := qFacts hd e b p t hE he hS hb hp
  have dg : ∀ n : Nat, undig (dig (n % 64)) = n % 64 := fun n => undig_dig ⟨n % 64, by omega⟩
  rw [L_drop t p (by omega), L_drop t (p + 1) (by omega), L_drop t (p + 2) (by omega), L_drop t (p + 3) (by omega), L_drop_end t (p + 4) (by omega)] at hx
  match x, h1, h3 with
  | [a1], _, _ =>
    simp only [b64, List.cons.injEq, and_true] at hx
    obtain ⟨x0, x1, x2, x3⟩ := hx
    rw [x2, x3] at F
    have ha := a1.toNat_lt
    refine (quan1 _ w d e b acc.length p t.size kd kb _ _ _ a1 (a1.toNat * 65536 / 262144 % 64) (a1.toNat * 65536 / 4096 % 64) (hp ▸ F) hp.symm ht (by rw [x0, dg]) (by rw [x1, dg]) (by omega) (by omega) (by omega) hkb).mono ?_
    rintro r w' ⟨rfl, a, b2, c, f, n, rfl⟩
    exact ⟨rfl, q_fills hd _ _ _ _ _ _ _ _ _ (row3_one acc a1) (by simp), q_only _ _ _ _ _ _ _ _⟩
  | [a1, a2], _, _ =>
    simp only [b64, List.cons.injEq, and_true] at hx
    obtain ⟨x0, x1, x2, x3⟩ := hx
    rw [x3] at F
    have ha := a1.toNat_lt
    have ha2 := a2.toNat_lt
    refine (quan2 _ w d e b acc.length p t.size kd kb _ _ _ _ a1 a2 ((a1.toNat * 65536 + a2.toNat * 256) / 262144 % 64) ((a1.toNat * 65536 + a2.toNat * 256) / 4096 % 64) ((a1.toNat * 65536 + a2.toNat * 256) / 64 % 64) (hp ▸ F) hp.symm ht (by rw [x0, dg]) (by rw [x1, dg]) (by rw [x2, dg]) (by omega) (by omega) (by omega) (by omega) hkb).mono ?_
    rintro r w' ⟨rfl, a, b2, c, f, n, rfl⟩
    exact ⟨rfl, q_fills hd _ _ _ _ _ _ _ _ _ (row3_two acc a1 a2) (by simp), q_only _ _ _ _ _ _ _ _⟩
  | [a1, a2, a3], _, _ =>
    simp only [b64, q4, List.append_nil, List.cons.injEq, and_true] at hx
    obtain ⟨x0, x1, x2, x3⟩ := hx
    have ha := a1.toNat_lt
    have ha2 := a2.toNat_lt
    have ha3 := a3.toNat_lt
    refine (quan3 _ w d e b acc.length p t.size kd kb _ _ _ _ _ a1 a2 a3 ((a1.toNat * 65536 + a2.toNat * 256 + a3.toNat) / 262144 % 64) ((a1.toNat * 65536 + a2.toNat * 256 + a3.toNat) / 4096 % 64) ((a1.toNat * 65536 + a2.toNat * 256 + a3.toNat) / 64 % 64) ((a1.toNat * 65536 + a2.toNat * 256 + a3.toNat) % 64) (hp ▸ F) hp.symm ht (by rw [x0, dg]) (by rw [x1, dg]) (by rw [x2, dg]) (by rw [x3, dg]) (by omega) (by omega) (by omega) (by omega) (by omega) hkb).mono ?_
    rintro r w' ⟨rfl, a, b2, c, f, n, rfl⟩
    exact ⟨rfl, q_fills hd _ _ _ _ _ _ _ _ _ (row3_three acc a1 a2 a3) (by simp), q_only _ _ _ _ _ _ _ _⟩
end Go.Proofs.YtlapehcngmiaaaaDoor
