/-
  CONTRACTS OF THE FUNCTIONS ON SINGLE BYTES: isTSpecial, isTokenChar (the masks), spec's within, Special, TokenByte: each returns the plain Bool of Lean, for every byte; no condition (within: a text of at most 2 to the 62nd bytes).
-/
import Derived.Test.YtlapehcngmiaaaaDoorRows
import Derived.Test.YtlapehcngmiaaaaDoorBase
namespace Go.Proofs.YtlapehcngmiaaaaDoor
open Go.RowKit

/-- The tspecials, as bytes. -/
def spcL : List UInt8 := [40, 41, 60, 62, 64, 44, 59, 58, 92, 34, 47, 91, 93, 63, 61]
def hasB : List UInt8 → UInt8 → Bool
  | [], _ => false
  | c :: r, b => if c = b then true else hasB r b
def spcB (b : UInt8) : Bool := hasB spcL b
/-- A byte of a token. -/
def tokB (b : UInt8) : Bool := decide (32 < b) && decide (b < 127) && !spcB b

theorem spc_mask : ∀ n : Fin 256, (bits BinOp.or IntKind.u64 (bits BinOp.and IntKind.u64 (IntKind.u64.wrap (2 ^ min n.val 64)) 18158675342946992128)
    (bits BinOp.and IntKind.u64 (IntKind.u64.wrap (2 ^ min ((n.val + 192) % 256) 64)) 939524097) != 0) = spcB (UInt8.ofNat n.val) := by decide +kernel
theorem tok_mask : ∀ n : Fin 256, (bits BinOp.or IntKind.u64 (bits BinOp.and IntKind.u64 (IntKind.u64.wrap (2 ^ min n.val 64)) 288068722172624896)
    (bits BinOp.and IntKind.u64 (IntKind.u64.wrap (2 ^ min ((n.val + 192) % 256) 64)) 9223372035915251710) != 0) = tokB (UInt8.ofNat n.val) := by decide +kernel

end Go.Proofs.YtlapehcngmiaaaaDoor
