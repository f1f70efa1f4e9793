/-
  CONTRACTS OF mime's closeWord, openWord AND splitWord on a builder of the call's own.
-/
import Derived.Test.YtdoddigmfckhmaaDoorSt
import Derived.Handy
namespace Go.Proofs.YtdoddigmfckhmaaDoor
open Go.RowKit

/-- The head of a word. -/
def headL (cs : List UInt8) (e : UInt8) : List UInt8 := 61 :: 63 :: (cs ++ [63, e, 63])
theorem closeWord_c (B b : Nat) (acc : List UInt8) (w0 w : World) (hst : St B b acc w0 w) (hlen : acc.length ≤ 70368744177664) :
    Calls Tryd.prog 23 #[.pointer (some ⟨b, 0, none⟩)] w fun e w' => e = .returned (.tuple #[]) ∧ St B b (acc ++ [63, 61]) w0 w' := by
  go_enter Tryd.func23, Tryd.ntmps23
  go_wp2_with fail
  refine (stString hst ⟨#[63, 61]⟩ (by have : (⟨#[63, 61]⟩ : ByteArray).size = 2 := rfl; omega)).mono ?_
  rintro e w1 ⟨rfl, h1⟩
  go_wp2_with fail
  go_end0
  exact ⟨rfl, h1⟩
theorem openWord_c (B b : Nat) (acc : List UInt8) (en : UInt8) (cs : ByteArray) (w0 w : World) (hst : St B b acc w0 w) (hlen : acc.length ≤ 70368744177664) (hcs : cs.size ≤ 1048576) :
    Calls Tryd.prog 20 #[.int .u8 (en.toNat : Int), .pointer (some ⟨b, 0, none⟩), .string cs] w fun e w' => e = .returned (.tuple #[]) ∧ St B b (acc ++ headL (L cs) en) w0 w' := by
  have z : (⟨#[61, 63]⟩ : ByteArray).size = 2 := rfl
  have HZ := Lib.hid z
  clear z
  go_enter Tryd.func20, Tryd.ntmps20
  go_wp2_with fail
  refine (stString hst ⟨#[61, 63]⟩ (by have := HZ.out; omega)).mono ?_
  rintro e w1 ⟨rfl, h1⟩
  go_wp2_with fail
  refine (stString h1 cs (by have := HZ.out; rw [List.length_append, L_length]; omega)).mono ?_
  rintro e w2 ⟨rfl, h2⟩
  go_wp2_with fail
  refine (stByte h2 63 (by have := HZ.out; simp only [List.length_append, L_length]; omega)).mono ?_
  rintro e w3 ⟨rfl, h3⟩
  go_wp2_with fail
  refine (stByte h3 en (by have := HZ.out; simp only [List.length_append, L_length, List.length_cons, List.length_nil]; omega)).mono ?_
  rintro e w4 ⟨rfl, h4⟩
  go_wp2_with fail
  refine (stByte h4 63 (by have := HZ.out; simp only [List.length_append, L_length, List.length_cons, List.length_nil]; omega)).mono ?_
  rintro e w5 ⟨rfl, h5⟩
  go_wp2_with fail
  go_end0
  refine ⟨rfl, ?_⟩
  have e : acc ++ headL (L cs) en = acc ++ L ⟨#[61, 63]⟩ ++ L cs ++ [63] ++ [en] ++ [63] := by simp [headL, L]
  rw [e]; exact h5
theorem splitWord_c (B b : Nat) (acc : List UInt8) (en : UInt8) (cs : ByteArray) (w0 w : World) (hst : St B b acc w0 w) (hlen : acc.length ≤ 35184372088832) (hcs : cs.size ≤ 1048576) :
    Calls Tryd.prog 34 #[.int .u8 (en.toNat : Int), .pointer (some ⟨b, 0, none⟩), .string cs] w fun e w' => e = .returned (.tuple #[]) ∧ St B b (acc ++ [63, 61, 32] ++ headL (L cs) en) w0 w' := by
  go_enter Tryd.func34, Tryd.ntmps34
  go_wp2_with fail
  refine (closeWord_c B b acc w0 _ hst (by omega)).mono ?_
  rintro e w1 ⟨rfl, h1⟩
  go_wp2_with fail
  refine (stByte h1 32 (by rw [List.length_append]; simp; omega)).mono ?_
  rintro e w2 ⟨rfl, h2⟩
  go_wp2_with fail
  refine (openWord_c B b _ en cs w0 _ h2 (by simp; omega) hcs).mono ?_
  rintro e w3 ⟨rfl, h3⟩
  go_wp2_with fail
  go_end0
  refine ⟨rfl, ?_⟩
  have e : acc ++ [63, 61, 32] ++ headL (L cs) en = acc ++ [63, 61] ++ [32] ++ headL (L cs) en := by simp
  rw [e]; exact h3
end Go.Proofs.YtdoddigmfckhmaaDoor
