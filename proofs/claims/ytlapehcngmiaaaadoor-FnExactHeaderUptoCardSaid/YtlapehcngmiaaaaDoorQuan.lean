/-
  CONTRACT OF encoding/base64's decodeQuantum at the last four letters of a text.
-/
import Derived.Test.YtlapehcngmiaaaaDoorEnc
import Derived.Test.YtlapehcngmiaaaaDoorAsm
import Derived.Deep.MidRow
import Derived.BigQuiet
import Derived.Handy
namespace Go.Proofs.YtlapehcngmiaaaaDoor
open Go.RowKit

/-- The row that is filled, but for its last three cells. -/
def row3 (acc : List UInt8) (x y z : Value) : Array Value := (Lib.byteCells acc ++ [x, y, z]).toArray
theorem row3_start (acc : List UInt8) : fillCells (acc.length + 3) acc = row3 acc (.int .u8 0) (.int .u8 0) (.int .u8 0) := by
  unfold fillCells row3
  rw [show acc.length + 3 - acc.length = 3 by omega]
  rfl
theorem bc_len (acc : List UInt8) : (Lib.byteCells acc).length = acc.length := by simp [Lib.byteCells]
theorem row3_at (acc : List UInt8) (x y z : Value) (j : Nat) : (row3 acc x y z)[acc.length + j]? = [x, y, z][j]? := by
  unfold row3
  rw [List.getElem?_toArray, List.getElem?_append_right (by rw [bc_len]; omega), bc_len, Nat.add_sub_cancel_left]
theorem row3_set (acc : List UInt8) (x y z : Value) (j : Nat) (v : Value) : (row3 acc x y z).setIfInBounds (acc.length + j) v = (Lib.byteCells acc ++ [x, y, z].set j v).toArray := by
  unfold row3
  rw [List.setIfInBounds_toArray, List.set_append_right _ _ (by rw [bc_len]; omega), bc_len, Nat.add_sub_cancel_left]

/-- The worlds of the call: the last three cells of the row d, the four of the small array, the draws. -/
def qWorld (w : World) (d : Nat) (acc : List UInt8) (x y z p q r s : Value) (n : Nat) : World := ((w.setRow d (row3 acc x y z)).alloc (.cells #[p, q, r, s] 146)).drewN n

structure QFacts (V : Value → Value → Value → Value → Value → Value → Value → Nat → World) (w : World) (d e b o p N : Nat) (A : List Value) (t0 t1 t2 t3 : UInt8) : Prop where
  start : w.alloc (.cells #[.int .u8 0, .int .u8 0, .int .u8 0, .int .u8 0] 146) = V (.int .u8 0) (.int .u8 0) (.int .u8 0) (.int .u8 0) (.int .u8 0) (.int .u8 0) (.int .u8 0) 0
  drew : ∀ x y z a b c f n k, (V x y z a b c f n).drewN k = V x y z a b c f (n + k)
  drew1 : ∀ x y z a b c f n, (V x y z a b c f n).drew = V x y z a b c f (n + 1)
  d0 : ∀ x y z a b c f n, (V x y z a b c f n).cell? ⟨d, o, none⟩ = some x
  d1 : ∀ x y z a b c f n, (V x y z a b c f n).cell? ⟨d, o + 1, none⟩ = some y
  d2 : ∀ x y z a b c f n, (V x y z a b c f n).cell? ⟨d, o + 2, none⟩ = some z
  e0 : ∀ x y z a b c f n v, (V x y z a b c f n).setCell ⟨d, o, none⟩ v = V v y z a b c f n
  e1 : ∀ x y z a b c f n v, (V x y z a b c f n).setCell ⟨d, o + 1, none⟩ v = V x v z a b c f n
  e2 : ∀ x y z a b c f n v, (V x y z a b c f n).setCell ⟨d, o + 2, none⟩ v = V x y v a b c f n
  f0 : ∀ x y z a b c f n, (V x y z a b c f n).frozen? ⟨d, o, none⟩ = false
  f1 : ∀ x y z a b c f n, (V x y z a b c f n).frozen? ⟨d, o + 1, none⟩ = false
  f2 : ∀ x y z a b c f n, (V x y z a b c f n).frozen? ⟨d, o + 2, none⟩ = false
  g0 : ∀ x y z a b c f n, (V x y z a b c f n).cell? ⟨w.heap.size, 0, none⟩ = some a
  g1 : ∀ x y z a b c f n, (V x y z a b c f n).cell? ⟨w.heap.size, 1, none⟩ = some b
  g2 : ∀ x y z a b c f n, (V x y z a b c f n).cell? ⟨w.heap.size, 2, none⟩ = some c
  g3 : ∀ x y z a b c f n, (V x y z a b c f n).cell? ⟨w.heap.size, 3, none⟩ = some f
  h0 : ∀ x y z a b c f n v, (V x y z a b c f n).setCell ⟨w.heap.size, 0, none⟩ v = V x y z v b c f n
  h1 : ∀ x y z a b c f n v, (V x y z a b c f n).setCell ⟨w.heap.size, 1, none⟩ v = V x y z a v c f n
  h2 : ∀ x y z a b c f n v, (V x y z a b c f n).setCell ⟨w.heap.size, 2, none⟩ v = V x y z a b v f n
  h3 : ∀ x y z a b c f n v, (V x y z a b c f n).setCell ⟨w.heap.size, 3, none⟩ v = V x y z a b c v n
  i0 : ∀ x y z a b c f n k, (V x y z a b c f n).frozen? ⟨w.heap.size, k, none⟩ = false
  map : ∀ x y z a b c f n, (V x y z a b c f n).rangeAt e 64 A
  len : A.length = 256
  look : ∀ x y z a b c f n (t : UInt8), (V x y z a b c f n).cell? ⟨e, 64 + t.toNat, none⟩ = some (.int .u8 (undig t : Int))
  pad : ∀ x y z a b c f n, (V x y z a b c f n).cell? ⟨e, 320, none⟩ = some (.int .i32 61)
  strict : ∀ x y z a b c f n, (V x y z a b c f n).cell? ⟨e, 321, none⟩ = some (.bool false)
  s0 : ∀ x y z a b' c f n, (V x y z a b' c f n).cell? ⟨b, p, none⟩ = some (.int .u8 (t0.toNat : Int))
  s1 : ∀ x y z a b' c f n, (V x y z a b' c f n).cell? ⟨b, p + 1, none⟩ = some (.int .u8 (t1.toNat : Int))
  s2 : ∀ x y z a b' c f n, (V x y z a b' c f n).cell? ⟨b, p + 2, none⟩ = some (.int .u8 (t2.toNat : Int))
  s3 : ∀ x y z a b' c f n, (V x y z a b' c f n).cell? ⟨b, p + 3, none⟩ = some (.int .u8 (t3.toNat : Int))

theorem info256 : (Tryd.prog.info? 63).map (·.size) = some 256 := by kernel_rfl

theorem val24 (a b c d : Nat) (ha : a < 64) (hb : b < 64) (hc : c < 64) (hd : d < 64) :
    bits .or .u64 (bits .or .u64 (bits .or .u64 ((a : Int) * 262144) ((b : Int) * 4096)) ((c : Int) * 64)) (d : Int) = ((a * 262144 + b * 4096 + c * 64 + d : Nat) : Int) := by
  have k1 := join64 18 (a := a * 262144) (b := b * 4096) (by omega) (by omega) (by omega) (by omega)
  have k2 := join64 12 (a := a * 262144 + b * 4096) (b := c * 64) (by omega) (by omega) (by omega) (by omega)
  have k3 := join64 6 (a := a * 262144 + b * 4096 + c * 64) (b := d) (by omega) (by omega) (by omega) (by omega)
  simp only [Int.natCast_add, Int.natCast_mul, Int.cast_ofNat_Int] at k1 k2 k3
  rw [k1, k2, k3]
  omega

set_option maxHeartbeats 4000000 in
set_option maxRecDepth 100000 in
theorem quan3 (V : Value → Value → Value → Value → Value → Value → Value → Nat → World) (w : World) (d e b o p N kd kb : Nat) (A : List Value) (t0 t1 t2 t3 x y z : UInt8) (v0 v1 v2 v3 : Nat) (F : QFacts V w d e b o p N A t0 t1 t2 t3)
    (hN : N = p + 4) (hN1 : N ≤ 4398046511104) (u0 : undig t0 = v0) (u1 : undig t1 = v1) (u2 : undig t2 = v2) (u3 : undig t3 = v3) (l0 : v0 < 64) (l1 : v1 < 64) (l2 : v2 < 64) (l3 : v3 < 64)
    (hv : v0 * 262144 + v1 * 4096 + v2 * 64 + v3 = x.toNat * 65536 + y.toNat * 256 + z.toNat) (hkb : N ≤ kb) :
    Calls Tryd.prog 70 #[.pointer (some ⟨e, 0, none⟩), .slice (some ⟨d, o, none⟩) 3 kd, .slice (some ⟨b, 0, none⟩) N kb, .int .i64 (p : Int)] w
      (fun r w' => r = .returned (.tuple #[.int .i64 (N : Int), .int .i64 3, .nilIface]) ∧ ∃ a b c f n, w' = V (.int .u8 (x.toNat : Int)) (.int .u8 (y.toNat : Int)) (.int .u8 (z.toNat : Int)) a b c f n) := by
  have hx := x.toNat_lt
  have hy := y.toNat_lt
  have hz := z.toNat_lt
  obtain ⟨start, drew, drew1, d0, d1, d2, e0, e1, e2, f0, f1, f2, g0, g1, g2, g3, h0, h1, h2, h3, i0, map, len, look, pad, strict, s0, s1, s2, s3⟩ := F
  subst hN
  have E := val24 v0 v1 v2 v3 l0 l1 l2 l3
  rw [hv] at E
  obtain ⟨M, hM⟩ : ∃ M : Int, M = ((x.toNat * 65536 + y.toNat * 256 + z.toNat : Nat) : Int) := ⟨_, rfl⟩
  rw [← hM] at E
  have m0 : 0 ≤ M := by omega
  have m1 : M < 16777216 := by omega
  have c0 : M / 65536 = (x.toNat : Int) := by omega
  have c1 : M / 256 % 256 = (y.toNat : Int) := by omega
  have c2 : M % 256 = (z.toNat : Int) := by omega
  have n0 : (((v0 : Int)) == 255) = false := beq_eq_false_iff_ne.2 (by omega)
  have n1 : (((v1 : Int)) == 255) = false := beq_eq_false_iff_ne.2 (by omega)
  have n2 : (((v2 : Int)) == 255) = false := beq_eq_false_iff_ne.2 (by omega)
  have n3 : (((v3 : Int)) == 255) = false := beq_eq_false_iff_ne.2 (by omega)
  have k0 : ∀ x y z a b c f n, (V x y z a b c f n).cell? ⟨e, 64 + t0.toNat, none⟩ = some (.int .u8 (v0 : Int)) := fun _ _ _ _ _ _ _ _ => by rw [look, u0]
  have k1 : ∀ x y z a b c f n, (V x y z a b c f n).cell? ⟨e, 64 + t1.toNat, none⟩ = some (.int .u8 (v1 : Int)) := fun _ _ _ _ _ _ _ _ => by rw [look, u1]
  have k2 : ∀ x y z a b c f n, (V x y z a b c f n).cell? ⟨e, 64 + t2.toNat, none⟩ = some (.int .u8 (v2 : Int)) := fun _ _ _ _ _ _ _ _ => by rw [look, u2]
  have k3 : ∀ x y z a b c f n, (V x y z a b c f n).cell? ⟨e, 64 + t3.toNat, none⟩ = some (.int .u8 (v3 : Int)) := fun _ _ _ _ _ _ _ _ => by rw [look, u3]
  have b0 := t0.toNat_lt
  have b1 := t1.toNat_lt
  have b2 := t2.toNat_lt
  have b3 := t3.toNat_lt
  have HM := Lib.hid map
  have HI : Hid ((Tryd.prog.info? 63).map (·.size) = some A.length) := Lib.hid (by rw [len]; exact info256)
  have HP : Hid (((p : Int) + 1 + 1 + 1 + 1) = ((p + 4 : Nat) : Int)) := Lib.hid (by omega)
  clear look hv hM map len
  go_enter Tryd.func70, Tryd.ntmps70
  go_wp2
  refine wp_load_mid 63 (.tmp 19) rfl e 64 rfl A _ (HM.out _ _ _ _ _ _ _ _) Tryd.underlying63 rfl HI.out ?_
  obtain ⟨AV, hAV⟩ : ∃ AV : Value, AV = .agg A.toArray := ⟨_, rfl⟩
  rw [← hAV]
  clear hAV
  go_wp2
  go_rounds 5
  go_ret3
  exact ⟨by rw [← HP.out]; rfl, _, _, _, _, _, rfl⟩

end Go.Proofs.YtlapehcngmiaaaaDoor
