/-
  CONTRACTS OF THE FUNCTIONS ON SINGLE BYTES: isTSpecial, isTokenChar (the masks), spec's within, Special, TokenByte: each returns the plain Bool of Lean, for every byte; no condition (within: a text of at most 2 to the 62nd bytes).
-/
import Derived.Test.YtdoddigmfckhmaaDoorRows
import Derived.Test.YtdoddigmfckhmaaDoorBase
namespace Go.Proofs.YtdoddigmfckhmaaDoor
open Go.RowKit

/-- The tspecials, as bytes. -/
def spcL : List UInt8 := [40, 41, 60, 62, 64, 44, 59, 58, 92, 34, 47, 91, 93, 63, 61]
def hasB : List UInt8 → UInt8 → Bool
  | [], _ => false
  | c :: r, b => if c = b then true else hasB r b
def spcB (b : UInt8) : Bool := hasB spcL b
/-- A byte of a token. -/
def tokB (b : UInt8) : Bool := decide (32 < b) && decide (b < 127) && !spcB b

theorem spc_mask : ∀ n : Fin 256, (bits BinOp.or IntKind.u64 (bits BinOp.and IntKind.u64 (IntKind.u64.wrap (2 ^ min n.val 64)) 18158675342946992128)
    (bits BinOp.and IntKind.u64 (IntKind.u64.wrap (2 ^ min ((n.val + 192) % 256) 64)) 939524097) != 0) = spcB (UInt8.ofNat n.val) := by decide +kernel
theorem tok_mask : ∀ n : Fin 256, (bits BinOp.or IntKind.u64 (bits BinOp.and IntKind.u64 (IntKind.u64.wrap (2 ^ min n.val 64)) 288068722172624896)
    (bits BinOp.and IntKind.u64 (IntKind.u64.wrap (2 ^ min ((n.val + 192) % 256) 64)) 9223372035915251710) != 0) = tokB (UInt8.ofNat n.val) := by decide +kernel

theorem within_c (s : ByteArray) (b : UInt8) (w : World) (hs : s.size ≤ 4611686018427387904) :
    Calls Tryd.prog 18 #[.string s, .int .u8 b.toNat] w (Pure (.bool (hasB (L s) b)) w) := by
  go_enter Tryd.func18, Tryd.ntmps18
  go_wp2
  go_loop [5] (fun i => ∃ k : Nat, k ≤ s.size ∧ i = .int .i64 k ∧ hasB ((L s).drop k) b = hasB (L s) b) (fun i => s.size - (intOf i).toNat)
  case atStart => exact ⟨0, Nat.zero_le _, rfl, rfl⟩
  case round =>
    obtain ⟨k, hk, rfl, hno⟩ := hrel
    have HN := Lib.hid hno
    clear hno
    go_wp2
    · have hlt : k < s.size := by assumption
      have heq : ((s[k].toNat : Int) == b.toNat) = true := by assumption
      go_ret
      refine ⟨ret_bool ?_, rfl⟩
      rw [← HN.out, L_drop s k hlt, hasB, if_pos (by rw [byte_eq] at heq; exact beq_iff_eq.1 heq)]
    · have hlt : k < s.size := by assumption
      have heq : ((s[k].toNat : Int) == b.toNat) = false := by assumption
      go_round
      case rel =>
        refine ⟨k + 1, by omega, by go_num, ?_⟩
        rw [← HN.out, L_drop s k hlt, hasB, if_neg (by rw [byte_eq] at heq; exact beq_eq_false_iff_ne.1 heq)]
      case measure => simp [intOf]; omega
    · have hlt : ¬ k < s.size := by assumption
      go_ret
      refine ⟨ret_bool ?_, rfl⟩
      rw [← HN.out, L_drop_end s k hlt, hasB]

end Go.Proofs.YtdoddigmfckhmaaDoor
