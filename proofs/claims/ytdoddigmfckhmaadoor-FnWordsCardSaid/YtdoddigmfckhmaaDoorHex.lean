/-
  CONTRACTS OF THE FUNCTIONS ON HEXADECIMAL DIGITS: spec's hex, mime's ishex and unhex: for every byte; and the percent decoding in plain Lean.
-/
import Derived.Test.YtdoddigmfckhmaaDoorBase
import Derived.Test.YtdoddigmfckhmaaDoorRows
namespace Go.Proofs.YtdoddigmfckhmaaDoor
open Go.RowKit

/-- The value of a hexadecimal digit, or -1. -/
def hexI (b : UInt8) : Int :=
  if 48 ≤ (b.toNat : Int) ∧ (b.toNat : Int) ≤ 57 then (b.toNat : Int) - 48
  else if 65 ≤ (b.toNat : Int) ∧ (b.toNat : Int) ≤ 70 then (b.toNat : Int) - 65 + 10
  else if 97 ≤ (b.toNat : Int) ∧ (b.toNat : Int) ≤ 102 then (b.toNat : Int) - 97 + 10
  else -1
def isHex (b : UInt8) : Bool := decide (0 ≤ hexI b)
/-- The byte of two digits. -/
def hexByte (a b : UInt8) : UInt8 := UInt8.ofNat (hexI a * 16 + hexI b).toNat

theorem hexI_le (b : UInt8) : -1 ≤ hexI b ∧ hexI b ≤ 15 := by
  unfold hexI
  split
  · omega
  · split
    · omega
    · split <;> omega
theorem hexByte_int (a b : UInt8) (ha : isHex a = true) (hb : isHex b = true) : hexI a * 16 + hexI b = ((hexByte a b).toNat : Int) := by
  have h1 := hexI_le a
  have h2 := hexI_le b
  have h3 := of_decide_eq_true ha
  have h4 := of_decide_eq_true hb
  unfold hexByte
  rw [UInt8.toNat_ofNat_of_lt' (by simp [UInt8.size]; omega)]
  omega

theorem hex_or_all : ∀ x y : Fin 16, bits BinOp.or IntKind.u8 ((x.val : Int) * 16) (y.val : Int) = (x.val : Int) * 16 + (y.val : Int) := by decide +kernel
theorem hex_or (a b : UInt8) (ha : isHex a = true) (hb : isHex b = true) : bits BinOp.or IntKind.u8 (hexI a * 16) (hexI b) = ((hexByte a b).toNat : Int) := by
  rw [← hexByte_int a b ha hb]
  have h1 := hexI_le a
  have h2 := hexI_le b
  have h3 := of_decide_eq_true ha
  have h4 := of_decide_eq_true hb
  obtain ⟨x, hx⟩ := Int.eq_ofNat_of_zero_le h3
  obtain ⟨y, hy⟩ := Int.eq_ofNat_of_zero_le h4
  rw [hx, hy]
  exact hex_or_all ⟨x, by omega⟩ ⟨y, by omega⟩

theorem isHex_iff (b : UInt8) : isHex b = true ↔ (48 ≤ (b.toNat : Int) ∧ (b.toNat : Int) ≤ 57) ∨ (97 ≤ (b.toNat : Int) ∧ (b.toNat : Int) ≤ 102) ∨ (65 ≤ (b.toNat : Int) ∧ (b.toNat : Int) ≤ 70) := by
  unfold isHex hexI
  rw [decide_eq_true_iff]
  constructor
  · intro h
    split at h
    · omega
    · split at h
      · omega
      · split at h <;> omega
  · intro h
    split
    · omega
    · split
      · omega
      · split <;> omega

end Go.Proofs.YtdoddigmfckhmaaDoor
