/-
  THE WALK OF FnUnchanged: a printable text is not encoded; for every charset and every text.
-/
import Derived.Test.YtdoddigmfckhmaaDoorStrLaws
namespace Go.Proofs.YtdoddigmfckhmaaDoor
open Go.RowKit

theorem encode_plain (e : Int) (charset s : ByteArray) (w : World) (hp : allB prB (L s) = true) :
    Calls Tryd.prog 11 #[.int .u8 e, .string charset, .string s] w (Makes (.string s) w) := by
  go_enter Tryd.func11, Tryd.ntmps11
  go_wp2_with fail
  refine (needsEncoding_c s _).mono ?_
  rintro e w1 ⟨rfl, hb⟩
  rw [hp]
  go_wp2_with fail
  go_ret
  exact ⟨rfl, hb⟩

theorem implEncode_plain (q : Bool) (charset s : ByteArray) (w : World) (hp : allB prB (L s) = true) :
    Calls Tryd.prog 6 #[.bool q, .string charset, .string s] w (Makes (.string s) w) := by
  have H := Lib.hid (fun e w => encode_plain e charset s w hp)
  clear hp
  cases q
  all_goals
    go_enter Tryd.func6, Tryd.ntmps6
    go_wp2_with fail
    go_in
    go_wp2_with fail
    refine (H.out _ _).mono ?_
    rintro e w1 ⟨rfl, hb⟩
    go_wp2_with fail
    go_ret
    exact ⟨rfl, hb⟩

theorem fnUnchanged_walk (q : Bool) (charset s : ByteArray) (w : World) (_m1 : charset.size ≤ maxLen) (m2 : s.size ≤ maxLen) : Calls Tryd.prog 3 #[.bool q, .string charset, .string s] w (Makes (.bool true) w) := by
  unfold maxLen at m2
  by_cases h1 : (2147483647 : Int) < (charset.size : Int)
  · go_enter Tryd.func3, Tryd.ntmps3
    go_wp2_with fail
    go_ret
    exact ⟨rfl, Below.refl _ _⟩
  have d1 : decide ((2147483647 : Int) < (charset.size : Int)) = false := by simpa using h1
  by_cases h2 : (2147483647 : Int) < (s.size : Int)
  · go_enter Tryd.func3, Tryd.ntmps3
    go_wp2_with fail
    go_ret
    exact ⟨rfl, Below.refl _ _⟩
  have d2 : decide ((2147483647 : Int) < (s.size : Int)) = false := by simpa using h2
  by_cases h3 : (16777216 : Int) < (charset.size : Int)
  · go_enter Tryd.func3, Tryd.ntmps3
    go_wp2_with fail
    go_ret
    exact ⟨rfl, Below.refl _ _⟩
  have d3 : decide ((16777216 : Int) < (charset.size : Int)) = false := by simpa using h3
  by_cases h4 : (16777216 : Int) < (s.size : Int)
  · go_enter Tryd.func3, Tryd.ntmps3
    go_wp2_with fail
    go_ret
    exact ⟨rfl, Below.refl _ _⟩
  have d4 : decide ((16777216 : Int) < (s.size : Int)) = false := by simpa using h4
  cases hp : allB prB (L s)
  · go_enter Tryd.func3, Tryd.ntmps3
    go_wp2_with fail
    refine (printable_c s _ (by omega)).mono ?_
    rintro e w1 ⟨rfl, rfl⟩
    go_wp2_with fail
    go_ret
    exact ⟨rfl, Below.refl _ _⟩
  · have HE := Lib.hid (fun w => implEncode_plain q charset s w hp)
    have HN : Hid (∀ w, Calls Tryd.prog 7 #[.string s] w (Makes (.bool false) w)) := Lib.hid fun w => by
      have h := implNeeds_c s w
      rw [hp] at h
      exact h
    go_enter Tryd.func3, Tryd.ntmps3
    go_wp2_with fail
    refine (printable_c s _ (by omega)).mono ?_
    rintro e w1 ⟨rfl, rfl⟩
    go_wp2_with fail
    refine (HE.out _).mono ?_
    rintro e w1 ⟨rfl, hb1⟩
    go_wp2_with fail
    refine (HN.out _).mono ?_
    rintro e w2 ⟨rfl, hb2⟩
    go_wp2_with fail
    go_ret
    exact ⟨rfl, hb1.trans (hb2.mono hb1.size)⟩
end Go.Proofs.YtdoddigmfckhmaaDoor
