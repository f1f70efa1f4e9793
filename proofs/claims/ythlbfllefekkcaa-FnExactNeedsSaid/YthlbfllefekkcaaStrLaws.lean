/-
  THE WALKS OF THREE LAWS: FnExactNeeds, FnExactToken, FnExactIsToken: each returns true for every text, and writes nothing that was there.
-/
import Derived.Test.YthlbfllefekkcaaStr
namespace Go.Proofs.Ythlbfllefekkcaa
open Go.RowKit

theorem NeedsEncoding_c (s : ByteArray) (w : World) : Calls Try.prog 25 #[.string s] w (Makes (.bool (!allB prB (L s))) w) := by
  go_enter Try.func25, Try.ntmps25
  go_wp2_with fail
  refine (needsEncoding_c s _).mono ?_
  rintro e w1 ⟨rfl, hb⟩
  go_wp2_with fail
  go_ret
  exact ⟨rfl, hb⟩
theorem implNeeds_c (s : ByteArray) (w : World) : Calls Try.prog 11 #[.string s] w (Makes (.bool (!allB prB (L s))) w) := by
  go_enter Try.func11, Try.ntmps11
  go_wp2_with fail
  refine (NeedsEncoding_c s _).mono ?_
  rintro e w1 ⟨rfl, hb⟩
  go_wp2_with fail
  go_ret
  exact ⟨rfl, hb⟩
theorem fnExactNeeds_walk (s : ByteArray) (w : World) (m : s.size ≤ maxLen) : Calls Try.prog 3 #[.string s] w (Makes (.bool true) w) := by
  unfold maxLen at m
  by_cases h1 : (2147483647 : Int) < (s.size : Int)
  · go_enter Try.func3, Try.ntmps3
    go_wp2_with fail
    go_ret
    exact ⟨rfl, Below.refl _ _⟩
  by_cases h2 : (16777216 : Int) < (s.size : Int)
  · go_enter Try.func3, Try.ntmps3
    go_wp2_with fail
    go_ret
    exact ⟨rfl, Below.refl _ _⟩
  go_enter Try.func3, Try.ntmps3
  go_wp2_with fail
  refine (implNeeds_c s _).mono ?_
  rintro e w1 ⟨rfl, hb⟩
  go_wp2_with fail
  refine (printable_c s _ (by omega)).mono ?_
  rintro e w2 ⟨rfl, rfl⟩
  go_wp2_with fail
  go_ret
  exact ⟨ret_bool (by simp), hb⟩

theorem ConsumeToken_c (s : ByteArray) (w : World) (hs : s.size ≤ 4611686018427387904) : Calls Try.prog 29 #[.string s] w (Quiet (tokPair s) w) := by
  go_enter Try.func29, Try.ntmps29
  go_wp2_with fail
  refine (consumeToken_c s _ hs).mono ?_
  rintro e w1 ⟨rfl, n, rfl⟩
  unfold tokPair
  go_wp2_with fail
  go_ret2
  exact ⟨rfl, n, rfl⟩
theorem implToken_c (s : ByteArray) (w : World) (hs : s.size ≤ 4611686018427387904) : Calls Try.prog 17 #[.string s] w (Quiet (tokPair s) w) := by
  go_enter Try.func17, Try.ntmps17
  go_wp2_with fail
  refine (ConsumeToken_c s _ hs).mono ?_
  rintro e w1 ⟨rfl, n, rfl⟩
  unfold tokPair
  go_wp2_with fail
  go_ret2
  exact ⟨rfl, n, rfl⟩
theorem fnExactToken_walk (s : ByteArray) (w : World) (m : s.size ≤ maxLen) : Calls Try.prog 6 #[.string s] w (Makes (.bool true) w) := by
  unfold maxLen at m
  by_cases h1 : (2147483647 : Int) < (s.size : Int)
  · go_enter Try.func6, Try.ntmps6
    go_wp2_with fail
    go_ret
    exact ⟨rfl, Below.refl _ _⟩
  by_cases h2 : (16777216 : Int) < (s.size : Int)
  · go_enter Try.func6, Try.ntmps6
    go_wp2_with fail
    go_ret
    exact ⟨rfl, Below.refl _ _⟩
  go_enter Try.func6, Try.ntmps6
  go_wp2_with fail
  refine (implToken_c s _ (by omega)).mono ?_
  rintro e w1 ⟨rfl, n, rfl⟩
  unfold tokPair
  go_wp2_with fail
  refine (specToken_c s _ (by omega)).mono ?_
  rintro e w2 ⟨rfl, n2, rfl⟩
  unfold tokPair
  go_wp2_with fail
  go_ret
  exact ⟨rfl, (below_drewN (Below.refl _ _) _)⟩

theorem IsToken_c (s : ByteArray) (w : World) (hs : s.size ≤ 4611686018427387904) : Calls Try.prog 31 #[.string s] w (Makes (.bool (isTok (L s))) w) := by
  go_enter Try.func31, Try.ntmps31
  go_wp2_with fail
  refine (isToken_c s _ hs).mono ?_
  rintro e w1 ⟨rfl, hb⟩
  go_wp2_with fail
  go_ret
  exact ⟨rfl, hb⟩
theorem implIsToken_c (s : ByteArray) (w : World) (hs : s.size ≤ 4611686018427387904) : Calls Try.prog 19 #[.string s] w (Makes (.bool (isTok (L s))) w) := by
  go_enter Try.func19, Try.ntmps19
  go_wp2_with fail
  refine (IsToken_c s _ hs).mono ?_
  rintro e w1 ⟨rfl, hb⟩
  go_wp2_with fail
  go_ret
  exact ⟨rfl, hb⟩
theorem fnExactIsToken_walk (s : ByteArray) (w : World) (m : s.size ≤ maxLen) : Calls Try.prog 7 #[.string s] w (Makes (.bool true) w) := by
  unfold maxLen at m
  by_cases h1 : (2147483647 : Int) < (s.size : Int)
  · go_enter Try.func7, Try.ntmps7
    go_wp2_with fail
    go_ret
    exact ⟨rfl, Below.refl _ _⟩
  by_cases h2 : (16777216 : Int) < (s.size : Int)
  · go_enter Try.func7, Try.ntmps7
    go_wp2_with fail
    go_ret
    exact ⟨rfl, Below.refl _ _⟩
  go_enter Try.func7, Try.ntmps7
  go_wp2_with fail
  refine (implIsToken_c s _ (by omega)).mono ?_
  rintro e w1 ⟨rfl, hb⟩
  go_wp2_with fail
  refine (specIsToken_c s _ (by omega)).mono ?_
  rintro e w2 ⟨rfl, rfl⟩
  go_wp2_with fail
  go_ret
  exact ⟨ret_bool (by simp), hb⟩
end Go.Proofs.Ythlbfllefekkcaa
