/-
  CONTRACTS OF THE FUNCTIONS ON SINGLE BYTES: isTSpecial, isTokenChar (the masks), spec's within, Special, TokenByte: each returns the plain Bool of Lean, for every byte; no condition (within: a text of at most 2 to the 62nd bytes).
-/
import Derived.Test.YtglffpjobjpmpaaDoorRows
import Derived.Test.YtglffpjobjpmpaaDoorBase
namespace Go.Proofs.YtglffpjobjpmpaaDoor
open Go.RowKit

/-- The tspecials, as bytes. -/
def spcL : List UInt8 := [40, 41, 60, 62, 64, 44, 59, 58, 92, 34, 47, 91, 93, 63, 61]
def hasB : List UInt8 → UInt8 → Bool
  | [], _ => false
  | c :: r, b => if c = b then true else hasB r b
def spcB (b : UInt8) : Bool := hasB spcL b
/-- A byte of a token. -/
def tokB (b : UInt8) : Bool := decide (32 < b) && decide (b < 127) && !spcB b

theorem spc_mask : ∀ n : Fin 256, (bits BinOp.or IntKind.u64 (bits BinOp.and IntKind.u64 (IntKind.u64.wrap (2 ^ min n.val 64)) 18158675342946992128)
    (bits BinOp.and IntKind.u64 (IntKind.u64.wrap (2 ^ min ((n.val + 192) % 256) 64)) 939524097) != 0) = spcB (UInt8.ofNat n.val) := by decide +kernel
theorem tok_mask : ∀ n : Fin 256, (bits BinOp.or IntKind.u64 (bits BinOp.and IntKind.u64 (IntKind.u64.wrap (2 ^ min n.val 64)) 288068722172624896)
    (bits BinOp.and IntKind.u64 (IntKind.u64.wrap (2 ^ min ((n.val + 192) % 256) 64)) 9223372035915251710) != 0) = tokB (UInt8.ofNat n.val) := by decide +kernel

theorem isTSpecial_c (b : UInt8) (w : World) : Calls Tryd.prog 36 #[.int .u8 b.toNat] w (Pure (.bool (spcB b)) w) := by
  have h := b.toNat_lt
  obtain ⟨c, hc, hc1, hc2⟩ : ∃ c : Nat, ((b.toNat : Int) - 64) % 256 = (c : Int) ∧ c < 256 ∧ c = (b.toNat + 192) % 256 := ⟨_, by omega, by omega, rfl⟩
  have HC := Lib.hid hc2
  clear hc2
  go_enter Tryd.func36, Tryd.ntmps36
  go_wp2
  go_ret
  refine ⟨ret_bool ?_, rfl⟩
  have hm := spc_mask ⟨b.toNat, h⟩
  rw [UInt8.ofNat_toNat] at hm
  rw [HC.out]
  exact hm

theorem isTokenChar_c (b : UInt8) (w : World) : Calls Tryd.prog 41 #[.int .u8 b.toNat] w (Pure (.bool (tokB b)) w) := by
  have h := b.toNat_lt
  obtain ⟨c, hc, hc1, hc2⟩ : ∃ c : Nat, ((b.toNat : Int) - 64) % 256 = (c : Int) ∧ c < 256 ∧ c = (b.toNat + 192) % 256 := ⟨_, by omega, by omega, rfl⟩
  have HC := Lib.hid hc2
  clear hc2
  go_enter Tryd.func41, Tryd.ntmps41
  go_wp2
  go_ret
  refine ⟨ret_bool ?_, rfl⟩
  have hm := tok_mask ⟨b.toNat, h⟩
  rw [UInt8.ofNat_toNat] at hm
  rw [HC.out]
  exact hm

theorem within_c (s : ByteArray) (b : UInt8) (w : World) (hs : s.size ≤ 4611686018427387904) :
    Calls Tryd.prog 22 #[.string s, .int .u8 b.toNat] w (Pure (.bool (hasB (L s) b)) w) := by
  go_enter Tryd.func22, Tryd.ntmps22
  go_wp2
  go_loop [5] (fun i => ∃ k : Nat, k ≤ s.size ∧ i = .int .i64 k ∧ hasB ((L s).drop k) b = hasB (L s) b) (fun i => s.size - (intOf i).toNat)
  case atStart => exact ⟨0, Nat.zero_le _, rfl, rfl⟩
  case round =>
    obtain ⟨k, hk, rfl, hno⟩ := hrel
    have HN := Lib.hid hno
    clear hno
    go_wp2
    · have hlt : k < s.size := by assumption
      have heq : ((s[k].toNat : Int) == b.toNat) = true := by assumption
      go_ret
      refine ⟨ret_bool ?_, rfl⟩
      rw [← HN.out, L_drop s k hlt, hasB, if_pos (by rw [byte_eq] at heq; exact beq_iff_eq.1 heq)]
    · have hlt : k < s.size := by assumption
      have heq : ((s[k].toNat : Int) == b.toNat) = false := by assumption
      go_round
      case rel =>
        refine ⟨k + 1, by omega, by go_num, ?_⟩
        rw [← HN.out, L_drop s k hlt, hasB, if_neg (by rw [byte_eq] at heq; exact beq_eq_false_iff_ne.1 heq)]
      case measure => simp [intOf]; omega
    · have hlt : ¬ k < s.size := by assumption
      go_ret
      refine ⟨ret_bool ?_, rfl⟩
      rw [← HN.out, L_drop_end s k hlt, hasB]

/-- The constant text of the tspecials. -/
theorem special_c (b : UInt8) (w : World) : Calls Tryd.prog 27 #[.int .u8 b.toNat] w (Pure (.bool (spcB b)) w) := by
  go_enter Tryd.func27, Tryd.ntmps27
  go_wp2_with fail
  refine (within_c _ b _ (by decide)).mono ?_
  rintro e w' ⟨rfl, rfl⟩
  go_wp2_with fail
  go_ret
  exact ⟨rfl, rfl⟩

theorem tokenByte_c (b : UInt8) (w : World) : Calls Tryd.prog 18 #[.int .u8 b.toNat] w (Pure (.bool (tokB b)) w) := by
  have hb := b.toNat_lt
  have e1 : (32 < b) = (32 < b.toNat) := by rw [UInt8.lt_iff_toNat_lt]; rfl
  have e2 : (b < 127) = (b.toNat < 127) := by rw [UInt8.lt_iff_toNat_lt]; rfl
  by_cases h1 : (32 : Int) < (b.toNat : Int)
  · by_cases h2 : (b.toNat : Int) < 127
    · have e : tokB b = !spcB b := by simp only [tokB, e1, e2]; rw [decide_eq_true (by omega), decide_eq_true (by omega)]; rfl
      have E := Lib.hid e
      clear e e1 e2
      go_enter Tryd.func18, Tryd.ntmps18
      go_wp2_with (go_at_call 27; refine (special_c b _).mono ?_; rintro e w' ⟨rfl, rfl⟩)
      go_ret
      exact ⟨ret_bool E.out.symm, rfl⟩
    · have e : tokB b = false := by simp only [tokB, e1, e2]; rw [decide_eq_false (p := b.toNat < 127) (by omega)]; simp
      have E := Lib.hid e
      have hd : decide ((b.toNat : Int) < 127) = false := by simpa using h2
      clear e e1 e2 h2
      go_enter Tryd.func18, Tryd.ntmps18
      go_wp2_with (go_at_call 27; refine (special_c b _).mono ?_; rintro e w' ⟨rfl, rfl⟩)
      go_ret
      exact ⟨ret_bool E.out.symm, rfl⟩
  · have e : tokB b = false := by simp only [tokB, e1, e2]; rw [decide_eq_false (p := 32 < b.toNat) (by omega)]; simp
    have E := Lib.hid e
    have hd : decide ((32 : Int) < (b.toNat : Int)) = false := by simpa using h1
    clear e e1 e2 h1
    go_enter Tryd.func18, Tryd.ntmps18
    go_wp2_with (go_at_call 27; refine (special_c b _).mono ?_; rintro e w' ⟨rfl, rfl⟩)
    go_ret
    exact ⟨ret_bool E.out.symm, rfl⟩

end Go.Proofs.YtglffpjobjpmpaaDoor
