/-
  CONTRACT OF mime's isUTF8 at the two charsets of the law.
-/
import Derived.Test.YtdoddigmfckhmaaDoorWrd
import Derived.Test.YtdoddigmfckhmaaDoorShelf
namespace Go.Proofs.YtdoddigmfckhmaaDoor
open Go.RowKit

def csOk (c : ByteArray) : Prop := L c = [117, 116, 102, 45, 56] ∨ L c = [85, 84, 70, 45, 56]
theorem csOk_size {c : ByteArray} (h : csOk c) : c.size = 5 := by rw [← L_length]; rcases h with h | h <;> rw [h] <;> rfl
theorem lt128_of (l : List UInt8) (h : l.all (fun b => decide (b.toNat < 128)) = true) : ∀ (j : Nat) (b : UInt8), l[j]? = some b → b.toNat < 128 := fun j b hj => by
  have := List.all_eq_true.1 h b (List.mem_of_getElem? hj)
  exact of_decide_eq_true this
theorem isUTF8_c (c : ByteArray) (w : World) (h : csOk c) : Calls Tryd.prog 31 #[.string c] w (Makes (.bool true) w) := by
  have hz := csOk_size h
  have HF := Lib.hid (show ∀ w, Calls Tryd.prog 39 #[.string c, .string ⟨#[85, 84, 70, 45, 56]⟩] w (Pure (.bool true) w) from fun w => by
    have ha : (L c).all (fun b => decide (b.toNat < 128)) = true := by rcases h with h | h <;> rw [h] <;> decide
    have he : Lib.equalFold c.data.toList (⟨#[85, 84, 70, 45, 56]⟩ : ByteArray).data.toList = true := by
      show Lib.equalFold (L c) [85, 84, 70, 45, 56] = true
      rcases h with h | h <;> rw [h] <;> decide
    have := Tryd.strings_EqualFold c ⟨#[85, 84, 70, 45, 56]⟩ w (by omega) (lt128_of _ ha) (lt128_of _ (by decide))
    rw [he] at this
    exact this.mono fun _ _ ⟨h1, h2⟩ => ⟨h1, h2.symm⟩)
  clear h
  go_enter Tryd.func31, Tryd.ntmps31
  go_wp2_with fail
  refine (HF.out _).mono ?_
  rintro e w1 ⟨rfl, rfl⟩
  go_wp2_with fail
  go_ret
  exact ⟨rfl, Below.refl _ _⟩
end Go.Proofs.YtdoddigmfckhmaaDoor
