/-
  THE CELLS OF encoding/base64's OBJECT, in plain Lean: how each round of NewEncoding turns them.
-/
import Derived.Test.YtdoddigmfckhmaaDoorFill
import Derived.Test.YtdoddigmfckhmaaDoorB64
namespace Go.Proofs.YtdoddigmfckhmaaDoor
open Go.RowKit

/-- What the table of digits holds for a byte once k letters are entered. -/
def dval (k c : Nat) : Int := match (tab64.take k).idxOf? (UInt8.ofNat c) with
  | some i => (i : Int)
  | none => 255
def encInts (k : Nat) : List Int := tab64.map (fun c => (c.toNat : Int)) ++ (List.range 256).map (dval k)
def encRow (k : Nat) : Array Value := ((encInts k).map (Value.int .u8) ++ [Value.int .i32 61, Value.bool false]).toArray
theorem enc_set_ints : ∀ k : Fin 64, (encInts k.val).set (64 + (tab64.getD k.val 0).toNat) k.val = encInts (k.val + 1) := by decide +kernel
theorem enc_get_ints : ∀ k : Fin 64, (encInts k.val)[64 + (tab64.getD k.val 0).toNat]? = some 255 := by decide +kernel
theorem enc_undig : ∀ c : Fin 256, (encInts 64)[64 + c.val]? = some (undig (UInt8.ofNat c.val) : Int) := by decide +kernel
theorem enc_len (k : Nat) : (encInts k).length = 320 := by simp [encInts, tab64]
theorem tab_not : ∀ k : Fin 64, tab64.getD k.val 0 ≠ 10 ∧ tab64.getD k.val 0 ≠ 13 := by decide +kernel
theorem tab64_at' (q : Nat) (h : q < 64) : tab64[q]? = some (tab64.getD q 0) := by
  have : q < tab64.length := h
  simp [List.getD, this]
theorem enc_at (k j : Nat) (h : j < 256) : (encRow k)[64 + j]? = (encInts k)[64 + j]?.map (Value.int .u8) := by
  unfold encRow
  rw [List.getElem?_toArray, List.getElem?_append_left (by rw [List.length_map, enc_len]; omega), List.getElem?_map]
theorem enc_step (k j : Nat) (hk : k < 64) (h : j = (tab64.getD k 0).toNat) : encRow (k + 1) = (encRow k).setIfInBounds (64 + j) (.int .u8 (k : Int)) := by
  have hj : j < 256 := by rw [h]; exact UInt8.toNat_lt _
  unfold encRow
  rw [List.setIfInBounds_toArray, List.set_append_left _ _ (by rw [List.length_map, enc_len]; omega), ← List.map_set, h, enc_set_ints ⟨k, hk⟩]
end Go.Proofs.YtdoddigmfckhmaaDoor
