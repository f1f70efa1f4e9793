/-
  PLAIN WORDS AND LEMMAS that all texts of this seat share: a string's bytes as a list, the shapes of the contracts, endings; no program in sight, no condition.
-/
import Derived.WalkKit
import Derived.Lib.Hide
namespace Go.Proofs.Ythlbfllefekkcaa
open Go.RowKit

/-- A string's bytes. -/
def L (s : ByteArray) : List UInt8 := s.data.toList
/-- A call that only computes: it returns v, the world is as it was. -/
def Pure (v : Value) (w : World) (e : Ending) (w' : World) : Prop := e = .returned v ∧ w = w'
/-- A call that makes memory: it returns v, what lay there lies as it did. -/
def Makes (v : Value) (w : World) (e : Ending) (w' : World) : Prop := e = .returned v ∧ Below w.heap.size w w'

theorem L_length (s : ByteArray) : (L s).length = s.size := by unfold L; simp
theorem L_drop (s : ByteArray) (k : Nat) (h : k < s.size) : (L s).drop k = s[k] :: (L s).drop (k + 1) := by
  unfold L
  rw [List.drop_eq_getElem_cons (by simpa using h)]
  rfl
theorem L_drop_end (s : ByteArray) (k : Nat) (h : ¬ k < s.size) : (L s).drop k = [] := List.drop_eq_nil_of_le (by rw [L_length]; omega)
theorem L_zero (s : ByteArray) : (L s).drop 0 = L s := rfl

theorem ret_bool {a b : Bool} (h : a = b) : Ending.returned (.bool a) = .returned (.bool b) := by rw [h]
theorem ret_int {k : IntKind} {a b : Int} (h : a = b) : Ending.returned (.int k a) = .returned (.int k b) := by rw [h]
theorem ret_str {a b : ByteArray} (h : a = b) : Ending.returned (.string a) = .returned (.string b) := by rw [h]

theorem Pure.makes {v : Value} {w : World} {e : Ending} {w' : World} (h : Pure v w e w') : Makes v w e w' := ⟨h.1, by rw [← h.2]; exact Below.refl _ _⟩

/-- A number that fits a byte is a byte's. -/
theorem byte_of (n : Int) (h0 : 0 ≤ n) (h1 : n ≤ 255) : ∃ b : UInt8, n = (b.toNat : Int) :=
  ⟨UInt8.ofNat n.toNat, by rw [UInt8.toNat_ofNat_of_lt' (by simp [UInt8.size]; omega)]; omega⟩
theorem byte_eq (a b : UInt8) : (((a.toNat : Int)) == (b.toNat : Int)) = (a == b) := by
  rw [Bool.eq_iff_iff]
  simp only [beq_iff_eq, Int.ofNat_inj]
  exact ⟨UInt8.toNat_inj.1, fun h => by rw [h]⟩
end Go.Proofs.Ythlbfllefekkcaa
