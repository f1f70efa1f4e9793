/-
  CONTRACTS OF encoding/base64's assemble32 and assemble64, for digits below 64, and of internal/byteorder's BEPutUint32 and BEPutUint64 on a row that is filled from its beginning.
-/
import Derived.Test.YtlapehcngmiaaaaDoorFill
import Derived.Test.YtlapehcngmiaaaaDoorB64
namespace Go.Proofs.YtlapehcngmiaaaaDoor
open Go.RowKit

theorem or_lt64 {a b : Nat} (ha : a < 64) (hb : b < 64) : a ||| b < 64 := Nat.or_lt_two_pow (n := 6) ha hb
theorem or8 {a b : Nat} (ha : a < 64) (hb : b < 64) : bits .or .u8 (a : Int) (b : Int) = ((a ||| b : Nat) : Int) := u8_or_nat a b (by omega) (by omega)
theorem join32 (i : Nat) {a b : Nat} (h1 : a % 2 ^ i = 0) (h2 : b < 2 ^ i) (h3 : a < 4294967296) (h4 : b < 4294967296) : bits .or .u32 (a : Int) (b : Int) = ((a + b : Nat) : Int) := by
  rw [u32_or_nat a b h3 h4, nat_join i a b h1 h2]

set_option maxHeartbeats 1000000 in
theorem assemble32_c (a b c d : Nat) (w : World) (ha : a < 64) (hb : b < 64) (hc : c < 64) (hd : d < 64) :
    Calls Tryd.prog 71 #[.int .u8 a, .int .u8 b, .int .u8 c, .int .u8 d] w (Pure (.tuple #[.int .u32 (((a * 262144 + b * 4096 + c * 64 + d) * 256 : Nat) : Int), .bool true]) w) := by
  have o1 := or8 ha hb
  have l1 := or_lt64 ha hb
  have o2 := or8 l1 hc
  have l2 := or_lt64 l1 hc
  have o3 := or8 l2 hd
  have l3 := or_lt64 l2 hd
  have t : ((((a ||| b ||| c ||| d : Nat) : Int)) == 255) = false := beq_eq_false_iff_ne.2 (by omega)
  have e1 := join32 26 (a := a * 67108864) (b := b * 1048576) (by omega) (by omega) (by omega) (by omega)
  have e2 := join32 20 (a := a * 67108864 + b * 1048576) (b := c * 16384) (by omega) (by omega) (by omega) (by omega)
  have e3 := join32 14 (a := a * 67108864 + b * 1048576 + c * 16384) (b := d * 256) (by omega) (by omega) (by omega) (by omega)
  simp only [Int.natCast_add, Int.natCast_mul, Int.cast_ofNat_Int] at e1 e2 e3
  have E : bits .or .u32 (bits .or .u32 (bits .or .u32 ((a : Int) * 67108864) ((b : Int) * 1048576)) ((c : Int) * 16384)) ((d : Int) * 256) = (((a * 262144 + b * 4096 + c * 64 + d) * 256 : Nat) : Int) := by
    rw [e1, e2, e3]
    omega
  have HE := Lib.hid E
  clear l1 l2 l3 e1 e2 e3 E
  go_enter Tryd.func71, Tryd.ntmps71
  go_wp2
  go_ret2
  exact ⟨by rw [HE.out]; rfl, rfl⟩

theorem join64 (i : Nat) {a b : Nat} (h1 : a % 2 ^ i = 0) (h2 : b < 2 ^ i) (h3 : a < 18446744073709551616) (h4 : b < 18446744073709551616) : bits .or .u64 (a : Int) (b : Int) = ((a + b : Nat) : Int) := by
  rw [u64_or_nat a b h3 h4, nat_join i a b h1 h2]

/-- The number of eight digits. -/
def n48 (a b c d e f g h : Nat) : Nat := (a * 262144 + b * 4096 + c * 64 + d) * 16777216 + (e * 262144 + f * 4096 + g * 64 + h)
set_option maxHeartbeats 2000000 in
theorem assemble64_c (a b c d e f g h : Nat) (w : World) (ha : a < 64) (hb : b < 64) (hc : c < 64) (hd : d < 64) (he : e < 64) (hf : f < 64) (hg : g < 64) (hh : h < 64) :
    Calls Tryd.prog 68 #[.int .u8 a, .int .u8 b, .int .u8 c, .int .u8 d, .int .u8 e, .int .u8 f, .int .u8 g, .int .u8 h] w (Pure (.tuple #[.int .u64 ((n48 a b c d e f g h * 65536 : Nat) : Int), .bool true]) w) := by
  have o1 := or8 ha hb
  have l1 := or_lt64 ha hb
  have o2 := or8 l1 hc
  have l2 := or_lt64 l1 hc
  have o3 := or8 l2 hd
  have l3 := or_lt64 l2 hd
  have o4 := or8 l3 he
  have l4 := or_lt64 l3 he
  have o5 := or8 l4 hf
  have l5 := or_lt64 l4 hf
  have o6 := or8 l5 hg
  have l6 := or_lt64 l5 hg
  have o7 := or8 l6 hh
  have l7 := or_lt64 l6 hh
  have t : ((((a ||| b ||| c ||| d ||| e ||| f ||| g ||| h : Nat) : Int)) == 255) = false := beq_eq_false_iff_ne.2 (by omega)
  have E : bits .or .u64 (bits .or .u64 (bits .or .u64 (bits .or .u64 (bits .or .u64 (bits .or .u64 (bits .or .u64 ((a : Int) * 288230376151711744) ((b : Int) * 4503599627370496)) ((c : Int) * 70368744177664)) ((d : Int) * 1099511627776)) ((e : Int) * 17179869184)) ((f : Int) * 268435456)) ((g : Int) * 4194304)) ((h : Int) * 65536) = ((n48 a b c d e f g h * 65536 : Nat) : Int) := by
    have k1 := join64 58 (a := a * 288230376151711744) (b := b * 4503599627370496) (by omega) (by omega) (by omega) (by omega)
    have k2 := join64 52 (a := a * 288230376151711744 + b * 4503599627370496) (b := c * 70368744177664) (by omega) (by omega) (by omega) (by omega)
    have k3 := join64 46 (a := a * 288230376151711744 + b * 4503599627370496 + c * 70368744177664) (b := d * 1099511627776) (by omega) (by omega) (by omega) (by omega)
    have k4 := join64 40 (a := a * 288230376151711744 + b * 4503599627370496 + c * 70368744177664 + d * 1099511627776) (b := e * 17179869184) (by omega) (by omega) (by omega) (by omega)
    have k5 := join64 34 (a := a * 288230376151711744 + b * 4503599627370496 + c * 70368744177664 + d * 1099511627776 + e * 17179869184) (b := f * 268435456) (by omega) (by omega) (by omega) (by omega)
    have k6 := join64 28 (a := a * 288230376151711744 + b * 4503599627370496 + c * 70368744177664 + d * 1099511627776 + e * 17179869184 + f * 268435456) (b := g * 4194304) (by omega) (by omega) (by omega) (by omega)
    have k7 := join64 22 (a := a * 288230376151711744 + b * 4503599627370496 + c * 70368744177664 + d * 1099511627776 + e * 17179869184 + f * 268435456 + g * 4194304) (b := h * 65536) (by omega) (by omega) (by omega) (by omega)
    simp only [Int.natCast_add, Int.natCast_mul, Int.cast_ofNat_Int] at k1 k2 k3 k4 k5 k6 k7
    rw [k1, k2, k3, k4, k5, k6, k7]
    unfold n48
    omega
  have HE := Lib.hid E
  clear l1 l2 l3 l4 l5 l6 l7 E
  go_enter Tryd.func68, Tryd.ntmps68
  go_wp2
  go_ret2
  exact ⟨by rw [HE.out]; rfl, rfl⟩

end Go.Proofs.YtlapehcngmiaaaaDoor
