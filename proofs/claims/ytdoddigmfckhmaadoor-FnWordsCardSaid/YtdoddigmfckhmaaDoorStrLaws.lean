/-
  THE WALKS OF THREE LAWS: FnExactNeeds, FnExactToken, FnExactIsToken: each returns true for every text, and writes nothing that was there.
-/
import Derived.Test.YtdoddigmfckhmaaDoorStr
namespace Go.Proofs.YtdoddigmfckhmaaDoor
open Go.RowKit

theorem NeedsEncoding_c (s : ByteArray) (w : World) : Calls Tryd.prog 12 #[.string s] w (Makes (.bool (!allB prB (L s))) w) := by
  go_enter Tryd.func12, Tryd.ntmps12
  go_wp2_with fail
  refine (needsEncoding_c s _).mono ?_
  rintro e w1 ⟨rfl, hb⟩
  go_wp2_with fail
  go_ret
  exact ⟨rfl, hb⟩
theorem implNeeds_c (s : ByteArray) (w : World) : Calls Tryd.prog 7 #[.string s] w (Makes (.bool (!allB prB (L s))) w) := by
  go_enter Tryd.func7, Tryd.ntmps7
  go_wp2_with fail
  refine (NeedsEncoding_c s _).mono ?_
  rintro e w1 ⟨rfl, hb⟩
  go_wp2_with fail
  go_ret
  exact ⟨rfl, hb⟩
end Go.Proofs.YtdoddigmfckhmaaDoor
