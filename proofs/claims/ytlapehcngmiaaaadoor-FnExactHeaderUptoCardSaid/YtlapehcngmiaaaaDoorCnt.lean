/-
  CONTRACTS OF mime's zzCount (of a text of one byte) AND spec's Word: for texts of at most 2 to the 40th bytes.
-/
import Derived.Test.YtlapehcngmiaaaaDoorCut
namespace Go.Proofs.YtlapehcngmiaaaaDoor
open Go.RowKit

set_option maxRecDepth 100000 in
theorem zzCount_c (s sub : ByteArray) (c : UInt8) (w : World) (hs : s.size ≤ 1099511627776) (hsub : L sub = [c]) :
    Calls Tryd.prog 39 #[.string s, .string sub] w (Pure (.int .i64 ((L s).count c)) w) := by
  have h1 : sub.size = 1 := by rw [← L_length, hsub]; rfl
  have n1 : 1 ≤ sub.size := by omega
  have n2 : sub.size ≤ 1 := by omega
  have n3 : ((sub.size : Int) == 0) = false := by rw [beq_eq_false_iff_ne]; omega
  have HS := Lib.hid hsub
  have HZ := Lib.hid h1
  clear hsub h1
  go_enter Tryd.func39, Tryd.ntmps39
  go_wp2
  go_loop [5, 6] (fun n i => ∃ k m : Nat, k ≤ s.size ∧ m ≤ k ∧ i = .int .i64 k ∧ n = .int .i64 m ∧ m + ((L s).drop k).count c = (L s).count c) (fun _ i => s.size - (intOf i).toNat)
  case atStart => exact ⟨0, 0, Nat.zero_le _, Nat.le_refl _, rfl, rfl, by simp⟩
  case round =>
    obtain ⟨k, m, hk, hm, rfl, rfl, hno⟩ := hrel
    have HN := Lib.hid hno
    clear hno
    by_cases hlt : k + sub.size ≤ s.size
    · have hi0 : (0 : Int) ≤ (k : Int) := by omega
      have hi1 : (k : Int) + (sub.size : Int) ≤ (s.size : Int) := by omega
      have hsl := slice_eq s k sub.size hlt
      have hcut : L (s.extract k (k + sub.size)) = [s[k]] := by
        rw [extract_L, L_drop s k (by omega), HZ.out, Nat.add_sub_cancel_left]; rfl
      have hd := L_drop s k (by omega)
      by_cases hc : s[k] = c
      · have ht : ((s.extract k (k + sub.size)).toList == sub.toList) = true := by rw [toList_L, toList_L, hcut, HS.out, hc]; exact beq_self_eq_true _
        have HC := Lib.hid (show (m + 1) + ((L s).drop (k + sub.size)).count c = (L s).count c by rw [← HN.out, hd, HZ.out, hc, List.count_cons_self]; omega)
        clear hcut hd hc
        go_wp2_with fail
        go_round
        case rel => exact ⟨k + sub.size, m + 1, by omega, by omega, by go_num, by go_num, HC.out⟩
        case measure => simp [intOf]; omega
      · have ht : ((s.extract k (k + sub.size)).toList == sub.toList) = false := by rw [toList_L, toList_L, hcut, HS.out, beq_eq_false_iff_ne]; intro e; exact hc (by simpa using e)
        have HC := Lib.hid (show m + ((L s).drop (k + 1)).count c = (L s).count c by rw [← HN.out, hd, List.count_cons_of_ne hc])
        clear hcut hd hc
        go_wp2_with fail
        go_round
        case rel => exact ⟨k + 1, m, by omega, by omega, by go_num, rfl, HC.out⟩
        case measure => simp [intOf]; omega
    · have HE := Lib.hid (show m = (L s).count c by rw [← HN.out, L_drop_end s k (by omega)]; rfl)
      go_wp2_with fail
      go_ret
      exact ⟨by rw [← HE.out]; rfl, rfl⟩

theorem word_c (c h t : ByteArray) (w : World) (hc : c.size ≤ 1099511627776) (hh : h.size ≤ 1099511627776) (ht : t.size ≤ 1099511627776) : Calls Tryd.prog 12 #[.string c, .string h, .string t] w (Pure (.string (⟨#[61, 63]⟩ ++ c ++ ⟨#[63]⟩ ++ h ++ ⟨#[63]⟩ ++ t ++ ⟨#[63, 61]⟩)) w) := by
  go_enter Tryd.func12, Tryd.ntmps12
  go_wp2_with fail
  go_ret
  exact ⟨rfl, rfl⟩
theorem word_L (c h t : ByteArray) : L (⟨#[61, 63]⟩ ++ c ++ ⟨#[63]⟩ ++ h ++ ⟨#[63]⟩ ++ t ++ ⟨#[63, 61]⟩) = 61 :: 63 :: (L c ++ 63 :: (L h ++ 63 :: (L t ++ [63, 61]))) := by
  simp only [append_L]
  show [61, 63] ++ L c ++ [63] ++ L h ++ [63] ++ L t ++ [63, 61] = _
  simp
end Go.Proofs.YtlapehcngmiaaaaDoor
