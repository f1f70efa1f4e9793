/-
  BASE64 IN PLAIN LEAN: the text of bytes (b64), the value of a digit, and that the digits give the bytes back; no program in sight, no condition.
-/
import Derived.Test.YtdoddigmfckhmaaDoorBase
import Derived.Laws.BitsAllLaws
namespace Go.Proofs.YtdoddigmfckhmaaDoor
open Go.RowKit

def tab64 : List UInt8 := [65, 66, 67, 68, 69, 70, 71, 72, 73, 74, 75, 76, 77, 78, 79, 80, 81, 82, 83, 84, 85, 86, 87, 88, 89, 90, 97, 98, 99, 100, 101, 102, 103, 104, 105, 106, 107, 108, 109, 110, 111, 112, 113, 114, 115, 116, 117, 118, 119, 120, 121, 122, 48, 49, 50, 51, 52, 53, 54, 55, 56, 57, 43, 47]
/-- The digit of a number below 64. -/
def dig (n : Nat) : UInt8 := tab64.getD n 0
/-- The four digits of a number of 24 bits. -/
def q4 (n : Nat) : List UInt8 := [dig (n / 262144 % 64), dig (n / 4096 % 64), dig (n / 64 % 64), dig (n % 64)]
def b64 : List UInt8 → List UInt8
  | [] => []
  | [a] => [dig (a.toNat * 65536 / 262144 % 64), dig (a.toNat * 65536 / 4096 % 64), 61, 61]
  | [a, b] => [dig ((a.toNat * 65536 + b.toNat * 256) / 262144 % 64), dig ((a.toNat * 65536 + b.toNat * 256) / 4096 % 64), dig ((a.toNat * 65536 + b.toNat * 256) / 64 % 64), 61]
  | a :: b :: c :: r => q4 (a.toNat * 65536 + b.toNat * 256 + c.toNat) ++ b64 r

/-- The value of a digit; 255 where it is none. -/
def undig (c : UInt8) : Nat := match tab64.idxOf? c with
  | some i => i
  | none => 255
theorem undig_dig : ∀ i : Fin 64, undig (dig i.val) = i.val := by decide +kernel
theorem undig_le : ∀ c : Fin 256, undig (UInt8.ofNat c.val) ≤ 255 := by decide +kernel
theorem dig_ne : ∀ i : Fin 64, dig i.val ≠ 61 ∧ dig i.val ≠ 63 ∧ dig i.val ≠ 10 ∧ dig i.val ≠ 13 := by decide +kernel

theorem b64_len (l : List UInt8) : (b64 l).length = (l.length + 2) / 3 * 4 := by
  induction l using b64.induct with
  | case1 => rfl
  | case2 a => simp [b64]
  | case3 a b => simp [b64]
  | case4 a b c r ih => rw [b64, List.length_append, ih]; simp [q4]; omega
/-- No question mark is in it. -/
theorem b64_plain (l : List UInt8) : ∀ c ∈ b64 l, c ≠ 63 := by
  have D : ∀ n, dig (n % 64) ≠ 63 := fun n => (dig_ne ⟨n % 64, by omega⟩).2.1
  induction l using b64.induct with
  | case1 => intro c h; cases h
  | case2 a =>
    intro c h
    simp only [b64, List.mem_cons, List.not_mem_nil, or_false] at h
    rcases h with rfl | rfl | rfl | rfl
    · exact D _
    · exact D _
    · decide
    · decide
  | case3 a b =>
    intro c h
    simp only [b64, List.mem_cons, List.not_mem_nil, or_false] at h
    rcases h with rfl | rfl | rfl | rfl
    · exact D _
    · exact D _
    · exact D _
    · decide
  | case4 a b c r ih =>
    intro x h
    rw [b64, List.mem_append] at h
    rcases h with h | h
    · simp only [q4, List.mem_cons, List.not_mem_nil, or_false] at h
      rcases h with rfl | rfl | rfl | rfl
      · exact D _
      · exact D _
      · exact D _
      · exact D _
    · exact ih x h
theorem b64_three (a b c : UInt8) (r : List UInt8) : b64 (a :: b :: c :: r) = q4 (a.toNat * 65536 + b.toNat * 256 + c.toNat) ++ b64 r := by rw [b64]
/-- A text's first three bytes, its text's first four digits. -/
theorem b64_chunk (l : List UInt8) (h : 3 ≤ l.length) : b64 l = b64 (l.take 3) ++ b64 (l.drop 3) := by
  match l, h with
  | a :: b :: c :: r, _ => simp [b64]
theorem b64_chunk' (l : List UInt8) : b64 l = b64 (l.take 3) ++ b64 (l.drop 3) := by
  match l with
  | [] => rfl
  | [a] => simp [b64]
  | [a, b] => simp [b64]
  | a :: b :: c :: r => simp [b64]
end Go.Proofs.YtdoddigmfckhmaaDoor
