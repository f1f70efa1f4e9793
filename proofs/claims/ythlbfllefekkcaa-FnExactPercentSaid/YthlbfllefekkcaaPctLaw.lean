/-
  THE WALK OF FnExactPercent: returns true for every text, and writes nothing that was there.
-/
import Derived.Test.YthlbfllefekkcaaPctImpl
namespace Go.Proofs.Ythlbfllefekkcaa
open Go.RowKit

theorem implPercent_c (s : ByteArray) (w : World) (hs : s.size ≤ 1099511627776) : Calls Try.prog 22 #[.string s] w (Makes (pctPair (pct (L s))) w) := by
  have H := Lib.hid (fun w => percentHexUnescape_c s w hs)
  cases hp : pct (L s) with
  | none =>
    rw [hp] at H
    go_enter Try.func22, Try.ntmps22
    go_wp2_with fail
    go_in
    go_wp2_with fail
    refine (H.out _).mono ?_
    rintro e w1 ⟨rfl, hb⟩
    unfold pctPair
    go_wp2_with fail
    go_ret2
    exact ⟨rfl, hb⟩
  | some l =>
    rw [hp] at H
    go_enter Try.func22, Try.ntmps22
    go_wp2_with fail
    go_in
    go_wp2_with fail
    refine (H.out _).mono ?_
    rintro e w1 ⟨rfl, hb⟩
    unfold pctPair
    go_wp2_with fail
    go_ret2
    exact ⟨rfl, hb⟩

theorem fnExactPercent_walk (s : ByteArray) (w : World) (m : s.size ≤ maxLen) : Calls Try.prog 8 #[.string s] w (Makes (.bool true) w) := by
  unfold maxLen at m
  by_cases h1 : (2147483647 : Int) < (s.size : Int)
  · go_enter Try.func8, Try.ntmps8
    go_wp2_with fail
    go_ret
    exact ⟨rfl, Below.refl _ _⟩
  by_cases h2 : (16777216 : Int) < (s.size : Int)
  · go_enter Try.func8, Try.ntmps8
    go_wp2_with fail
    go_ret
    exact ⟨rfl, Below.refl _ _⟩
  have H := Lib.hid (fun w => implPercent_c s w (by omega))
  have G := Lib.hid (fun w => specPercent_c s w (by omega))
  cases hp : pct (L s)
  all_goals
    rw [hp] at H G
    go_enter Try.func8, Try.ntmps8
    go_wp2_with fail
    refine (G.out _).mono ?_
    rintro e w1 ⟨rfl, hb1⟩
    unfold pctPair
    go_wp2_with fail
    refine (H.out _).mono ?_
    rintro e w2 ⟨rfl, hb2⟩
    unfold pctPair
    go_wp2_with fail
    go_ret
    exact ⟨rfl, hb1.trans (hb2.mono hb1.size)⟩
end Go.Proofs.Ythlbfllefekkcaa
