/-
  CONTRACT OF slices.SortFunc AT A SLICE OF AT MOST ONE ELEMENT: it does nothing.
-/
import Derived.Test.YteohjnebbndcoaaDoorBase
import Derived.Test.YteohjnebbndcoaaDoorRows
import Derived.Test.YteohjnebbndcoaaDoorShelf
import Derived.LoopTactic
namespace Go.Proofs.YteohjnebbndcoaaDoor
open Go.RowKit

theorem insertion_c (v f : Value) (n : Nat) (w : World) (hn : n ≤ 1) : Calls Tryd.prog 54 #[v, .int .i64 0, .int .i64 n, f] w (Pure (.tuple #[]) w) := by
  have d : decide ((1 : Int) < (n : Int)) = false := by simp; omega
  go_enter Tryd.func54, Tryd.ntmps54
  go_wp2
  go_loop [8] (fun i => i = .int .i64 1) (fun _ => 0)
  case atStart => rfl
  case round =>
    obtain rfl := hrel
    go_wp2
    go_end0
    exact ⟨rfl, rfl⟩

theorem pdqsort_c (v f : Value) (n : Nat) (m : Int) (w : World) (hn : n ≤ 1) : Calls Tryd.prog 36 #[v, .int .i64 0, .int .i64 n, .int .i64 m, f] w (Pure (.tuple #[]) w) := by
  have d : decide ((n : Int) ≤ 12) = true := by simp; omega
  go_enter Tryd.func36, Tryd.ntmps36
  go_wp2
  go_loop [1, 2] (fun a b => a = .int .i64 0 ∧ b = .int .i64 n) (fun _ _ => 0)
  case atStart => exact ⟨rfl, rfl⟩
  case round =>
    obtain ⟨rfl, rfl⟩ := hrel
    go_wp2_with fail
    refine (insertion_c v f n _ hn).mono ?_
    rintro e w' ⟨rfl, rfl⟩
    go_wp2_with fail
    go_end0
    exact ⟨rfl, rfl⟩

theorem sortFunc_c (p : Option Addr) (n c : Nat) (f : Value) (w : World) (hn : n ≤ 1) : Calls Tryd.prog 20 #[.slice p n c, f] w (Pure (.tuple #[]) w) := by
  go_enter Tryd.func20, Tryd.ntmps20
  go_wp2_with fail
  refine (Tryd.bits_Len _ _ (by omega) (by omega)).mono ?_
  rintro e w' ⟨rfl, rfl⟩
  go_wp2_with fail
  refine (pdqsort_c _ f n _ _ hn).mono ?_
  rintro e w' ⟨rfl, rfl⟩
  go_wp2_with fail
  go_end0
  exact ⟨rfl, rfl⟩
end Go.Proofs.YteohjnebbndcoaaDoor
