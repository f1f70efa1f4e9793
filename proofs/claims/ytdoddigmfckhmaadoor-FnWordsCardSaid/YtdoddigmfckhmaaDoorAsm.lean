/-
  CONTRACTS OF encoding/base64's assemble32 and assemble64, for digits below 64, and of internal/byteorder's BEPutUint32 and BEPutUint64 on a row that is filled from its beginning.
-/
import Derived.Test.YtdoddigmfckhmaaDoorFill
import Derived.Test.YtdoddigmfckhmaaDoorB64
namespace Go.Proofs.YtdoddigmfckhmaaDoor
open Go.RowKit

theorem or_lt64 {a b : Nat} (ha : a < 64) (hb : b < 64) : a ||| b < 64 := Nat.or_lt_two_pow (n := 6) ha hb
theorem or8 {a b : Nat} (ha : a < 64) (hb : b < 64) : bits .or .u8 (a : Int) (b : Int) = ((a ||| b : Nat) : Int) := u8_or_nat a b (by omega) (by omega)
theorem join32 (i : Nat) {a b : Nat} (h1 : a % 2 ^ i = 0) (h2 : b < 2 ^ i) (h3 : a < 4294967296) (h4 : b < 4294967296) : bits .or .u32 (a : Int) (b : Int) = ((a + b : Nat) : Int) := by
  rw [u32_or_nat a b h3 h4, nat_join i a b h1 h2]

theorem join64 (i : Nat) {a b : Nat} (h1 : a % 2 ^ i = 0) (h2 : b < 2 ^ i) (h3 : a < 18446744073709551616) (h4 : b < 18446744073709551616) : bits .or .u64 (a : Int) (b : Int) = ((a + b : Nat) : Int) := by
  rw [u64_or_nat a b h3 h4, nat_join i a b h1 h2]

/-- The number of eight digits. -/
def n48 (a b c d e f g h : Nat) : Nat := (a * 262144 + b * 4096 + c * 64 + d) * 16777216 + (e * 262144 + f * 4096 + g * 64 + h)
end Go.Proofs.YtdoddigmfckhmaaDoor
