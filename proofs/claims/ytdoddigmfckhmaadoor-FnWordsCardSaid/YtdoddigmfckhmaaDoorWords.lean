/-
  THE WALK OF FnWords: a text of UTF-8 that is not printable becomes encoded words of at most 75 bytes; for both encodings and every text.
-/
import Derived.Test.YtdoddigmfckhmaaDoorEWd
import Derived.Test.YtdoddigmfckhmaaDoorSWs
namespace Go.Proofs.YtdoddigmfckhmaaDoor
open Go.RowKit

theorem valid_c (s : ByteArray) (w : World) (hs : s.size ≤ 1099511627776) (hT : Tabs w) : Calls Tryd.prog 8 #[.string s] w (Makes (.bool (Lib.validD s.data.toList)) w) := by
  have H := Lib.hid (Tryd.utf8_ValidString s w (by omega) hT)
  clear hT
  go_enter Tryd.func8, Tryd.ntmps8
  go_wp2_with fail
  refine H.out.mono ?_
  rintro e w1 ⟨rfl, hb⟩
  have HB := Lib.hid hb
  clear hb
  go_wp2_with fail
  go_ret
  exact ⟨rfl, HB.out⟩

/-- Of what comes back: the specification holds of it. -/
theorem coded_words (q : Bool) (cs : ByteArray) (hc : csOk cs) {w w' : World} {e : Ending} (h : Coded q cs w e w') : ∃ t : ByteArray, e = .returned (.string t) ∧ Below w.heap.size w w' ∧ ∀ u, Calls Tryd.prog 9 #[.string t, .string cs, .bool q] u (Pure (.bool true) u) := by
  obtain ⟨t, ws, rfl, hb, h0, h1, hz, hL⟩ := h
  obtain ⟨c, r, rfl⟩ : ∃ c r, ws = c :: r := by
    match ws, h0 with
    | c :: r, _ => exact ⟨c, r, rfl⟩
  exact ⟨t, rfl, hb, fun u => words_c q cs t u hc ⟨c, r, h1, hL⟩ (by omega)⟩

set_option maxHeartbeats 1000000 in
theorem fnWords_walk (q : Bool) (s : ByteArray) (w : World) (m : s.size ≤ maxLen) (hT : Tabs w) : Calls Tryd.prog 4 #[.bool q, .string s] w (Makes (.bool true) w) := by
  unfold maxLen at m
  by_cases h1 : (2147483647 : Int) < (s.size : Int)
  · clear hT
    go_enter Tryd.func4, Tryd.ntmps4
    go_wp2_with fail
    go_ret
    exact ⟨rfl, Below.refl _ _⟩
  have d1 : decide ((2147483647 : Int) < (s.size : Int)) = false := by simpa using h1
  by_cases h2 : (16777216 : Int) < (s.size : Int)
  · clear hT
    go_enter Tryd.func4, Tryd.ntmps4
    go_wp2_with fail
    go_ret
    exact ⟨rfl, Below.refl _ _⟩
  have d2 : decide ((16777216 : Int) < (s.size : Int)) = false := by simpa using h2
  cases hp : allB prB (L s)
  · have hs0 : 0 < s.size := by
      rcases Nat.eq_zero_or_pos s.size with h0 | h0
      · have := L_length s
        rw [h0] at this
        rw [List.eq_nil_of_length_eq_zero this] at hp
        cases hp
      · exact h0
    have hc1 : csOk ⟨#[117, 116, 102, 45, 56]⟩ := .inl rfl
    have hc2 : csOk ⟨#[85, 84, 70, 45, 56]⟩ := .inr rfl
    have HV := Lib.hid (valid_c s w (by omega) hT)
    have HT := Lib.hid hT
    have HE := Lib.hid (fun cs hc u hu => implEncodeQ_c q cs s u hc (by omega) hs0 hu hp)
    have HC := Lib.hid (And.intro hc1 hc2)
    have HP := Lib.hid (show Calls Tryd.prog 5 #[.string s] w (Pure (.bool false) w) from by
      have h := printable_c s w (by omega)
      rw [hp] at h
      exact h)
    clear hT hp hc1 hc2
    go_enter Tryd.func4, Tryd.ntmps4
    go_wp2_with fail
    refine HP.out.mono ?_
    rintro e w1 ⟨rfl, rfl⟩
    go_wp2_with fail
    refine HV.out.mono ?_
    rintro e w1 ⟨rfl, hb1⟩
    cases hv : Lib.validD s.data.toList
    · have HB1 := Lib.hid hb1
      clear hb1
      go_wp2_with fail
      go_ret
      exact ⟨rfl, HB1.out⟩
    · have H1 := Lib.hid (HE.out _ HC.out.1 w1 (HT.out.below hb1))
      have HB1 := Lib.hid hb1
      clear hb1 hv
      go_wp2_with fail
      refine H1.out.mono ?_
      intro e w2 hcd
      obtain ⟨t, rfl, hb2, hw2⟩ := coded_words q _ HC.out.1 hcd
      have HB2 := Lib.hid (HB1.out.trans (hb2.mono HB1.out.size))
      have HW2 := Lib.hid hw2
      clear hcd hb2 hw2
      go_wp2_with fail
      refine (HW2.out _).mono ?_
      rintro e w3 ⟨rfl, rfl⟩
      have H3 := Lib.hid (HE.out _ HC.out.2 w2 (HT.out.below HB2.out))
      go_wp2_with fail
      refine H3.out.mono ?_
      intro e w4 hcd
      obtain ⟨t4, rfl, hb4, hw4⟩ := coded_words q _ HC.out.2 hcd
      have HB4 := Lib.hid (HB2.out.trans (hb4.mono HB2.out.size))
      have HW4 := Lib.hid hw4
      clear hcd hb4 hw4
      go_wp2_with fail
      refine (HW4.out _).mono ?_
      rintro e w5 ⟨rfl, rfl⟩
      go_wp2_with fail
      go_ret
      exact ⟨rfl, HB4.out⟩
  · have HP := Lib.hid (show Calls Tryd.prog 5 #[.string s] w (Pure (.bool true) w) from by
      have h := printable_c s w (by omega)
      rw [hp] at h
      exact h)
    clear hT hp
    go_enter Tryd.func4, Tryd.ntmps4
    go_wp2_with fail
    refine HP.out.mono ?_
    rintro e w1 ⟨rfl, rfl⟩
    go_wp2_with fail
    go_ret
    exact ⟨rfl, Below.refl _ _⟩
end Go.Proofs.YtdoddigmfckhmaaDoor
