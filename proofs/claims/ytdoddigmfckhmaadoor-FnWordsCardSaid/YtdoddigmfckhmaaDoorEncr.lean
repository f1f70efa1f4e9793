/-
  CONTRACTS OF encoding/base64's NewEncoder and EncodedLen.
-/
import Derived.Test.YtdoddigmfckhmaaDoorBW
namespace Go.Proofs.YtdoddigmfckhmaaDoor
open Go.RowKit

/-- The seven cells ahead of the encoder's output. -/
def preE (e b : Nat) (b0 b1 b2 : Value) (n : Nat) : List Value := [.nilIface, .pointer (some ⟨e, 0, none⟩), .iface 37 (.pointer (some ⟨b, 0, none⟩)), b0, b1, b2, .int .i64 (n : Int)]
/-- The encoder in block eb, which writes into the builder b, holds back the bytes 'rest'. -/
def EncSt (eb e b : Nat) (rest : List UInt8) (w : World) : Prop := ∃ b0 b1 b2, OutAt eb (preE e b b0 b1 b2 rest.length) [] w ∧ [b0, b1, b2].take rest.length = Lib.byteCells rest

theorem encLen_c (e n : Nat) (w : World) (hE : EncAt e w) (hn : n ≤ 4398046511104) : Calls Tryd.prog 32 #[.pointer (some ⟨e, 0, none⟩), .int .i64 (n : Int)] w (Pure (.int .i64 (((n + 2) / 3 * 4 : Nat) : Int)) w) := by
  have hp := hE.pad
  clear hE
  go_enter Tryd.func32, Tryd.ntmps32
  go_wp2
  go_ret
  exact ⟨by simp, rfl⟩

def encCells (e b : Nat) : Array Value := (preE e b (.int .u8 0) (.int .u8 0) (.int .u8 0) 0 ++ List.replicate 1024 (Value.int .u8 0)).toArray
set_option maxRecDepth 100000 in
theorem newEncoder_c (e b : Nat) (w : World) :
    Calls Tryd.prog 29 #[.pointer (some ⟨e, 0, none⟩), .iface 37 (.pointer (some ⟨b, 0, none⟩))] w
      (fun r w' => r = .returned (.iface 68 (.pointer (some ⟨w.heap.size, 0, none⟩))) ∧ EncSt w.heap.size e b [] w' ∧ Below w.heap.size w w' ∧ w'.heap.size = w.heap.size + 1) := by
  have hz0 := zero_encoder
  have hz1 := zcEncoder_ne
  have hz2 := zcEncoder_size
  go_enter Tryd.func29, Tryd.ntmps29
  go_wp2
  go_ret
  rw [show ((zcEncoder.setIfInBounds 1 (Value.pointer (some ⟨e, 0, none⟩))).setIfInBounds 2 (Value.iface 37 (Value.pointer (some ⟨b, 0, none⟩)))) = encCells e b by kernel_rfl]
  exact ⟨rfl, ⟨_, _, _, ⟨rfl, List.replicate 1024 (Value.int .u8 0), by simp, by rw [heap_alloc_new]; rfl⟩, rfl⟩, (Below.refl _ _).alloc (Nat.le_refl _) _, by simp⟩
end Go.Proofs.YtdoddigmfckhmaaDoor
