/-
  HEXADECIMAL DIGITS: the two tables of the program, and that the digits of a byte give the byte back.
-/
import Derived.Test.YtglffpjobjpmpaaDoorByt
import Derived.Test.YtglffpjobjpmpaaDoorHex
namespace Go.Proofs.YtglffpjobjpmpaaDoor

/-- The hexadecimal digit of a number below 16. -/
def hexCap (n : Nat) : UInt8 := if n < 10 then UInt8.ofNat (48 + n) else UInt8.ofNat (55 + n)
def hexLow (n : Nat) : UInt8 := if n < 10 then UInt8.ofNat (48 + n) else UInt8.ofNat (87 + n)
theorem cap_all : ∀ i : Fin 16, (⟨#[48, 49, 50, 51, 52, 53, 54, 55, 56, 57, 65, 66, 67, 68, 69, 70]⟩ : ByteArray)[i.val]'(i.isLt) = hexCap i.val := by decide
theorem low_all : ∀ i : Fin 16, (⟨#[48, 49, 50, 51, 52, 53, 54, 55, 56, 57, 97, 98, 99, 100, 101, 102]⟩ : ByteArray)[i.val]'(i.isLt) = hexLow i.val := by decide
theorem cap_at (n : Nat) (h : n < 16) (hn) : ((⟨#[48, 49, 50, 51, 52, 53, 54, 55, 56, 57, 65, 66, 67, 68, 69, 70]⟩ : ByteArray)[n]'hn).toNat = (hexCap n).toNat := by rw [cap_all ⟨n, h⟩]
theorem low_at (n : Nat) (h : n < 16) (hn) : ((⟨#[48, 49, 50, 51, 52, 53, 54, 55, 56, 57, 97, 98, 99, 100, 101, 102]⟩ : ByteArray)[n]'hn).toNat = (hexLow n).toNat := by rw [low_all ⟨n, h⟩]
theorem three_cells (a b c : UInt8) : (#[Value.int .u8 (a.toNat : Int), Value.int .u8 (b.toNat : Int), Value.int .u8 (c.toNat : Int)] : Array Value).toList = Lib.byteCells [a, b, c] := rfl
theorem cap_hex : ∀ n : Fin 256, isHex (hexCap (n.val / 16)) = true ∧ isHex (hexCap (n.val % 16)) = true ∧ hexByte (hexCap (n.val / 16)) (hexCap (n.val % 16)) = UInt8.ofNat n.val := by decide +kernel
theorem low_hex : ∀ n : Fin 256, isHex (hexLow (n.val / 16)) = true ∧ isHex (hexLow (n.val % 16)) = true ∧ hexByte (hexLow (n.val / 16)) (hexLow (n.val % 16)) = UInt8.ofNat n.val := by decide +kernel
end Go.Proofs.YtglffpjobjpmpaaDoor
