/-
  CONTRACTS OF spec's word AND Words at texts of encoded words.
-/
import Derived.Test.YtdoddigmfckhmaaDoorWL
import Derived.Test.YtdoddigmfckhmaaDoorIsU
import Derived.Test.YtdoddigmfckhmaaDoorStr
namespace Go.Proofs.YtdoddigmfckhmaaDoor
open Go.RowKit

theorem hasB_dig : ∀ n : Fin 256, (!(okB false (UInt8.ofNat n.val)) || (UInt8.ofNat n.val == 61) || hasB tab64 (UInt8.ofNat n.val)) = true := by decide +kernel
theorem okB_dig (c : UInt8) (h : okB false c = true) (h61 : ¬ c = 61) : hasB tab64 c = true := by
  have := hasB_dig ⟨c.toNat, c.toNat_lt⟩
  rw [UInt8.ofNat_toNat, h, beq_eq_false_iff_ne.2 h61] at this
  simpa using this
theorem okB_tests (q : Bool) (c : UInt8) (h : okB q c = true) : decide ((c.toNat : Int) ≤ 32) = false ∧ decide ((126 : Int) < (c.toNat : Int)) = false ∧ ((c.toNat : Int) == 63) = false := by
  simp only [okB, Bool.and_eq_true, decide_eq_true_eq, Bool.not_eq_true', beq_eq_false_iff_ne] at h
  exact ⟨decide_eq_false (by omega), decide_eq_false (by omega), beq_no c 63 63 rfl h.1.2⟩
theorem word_facts (cs s : ByteArray) (c : List UInt8) (en : UInt8) (hcs : cs.size = 5) (hs : L s = wordL (L cs) en c) :
    decide ((s.size : Int) < 2 + (cs.size : Int) + 3 + 2) = false ∧ s.extract 0 (2 + cs.size + 3) = ⟨#[61, 63]⟩ ++ cs ++ ⟨#[63, en, 63]⟩ ∧ ((s.extract (s.size - 2) s.size).toList == [63, 61]) = true ∧
    ∃ X : ByteArray, L X = c ∧ ∀ w, (Instr.slice 9 (.string s) (some (.int .i64 (2 + (cs.size : Int) + 3))) (some (.int .i64 ((s.size : Int) - 2))) none).run Tryd.prog w = .ok (.string X) w := by
  have hsz : s.size = c.length + 12 := by
    rw [← L_length, hs]
    simp [wordL, headL, L_length, hcs]
    omega
  have hcl : (L cs).length = 5 := by rw [L_length]; exact hcs
  have hh : L s = ([61, 63] ++ L cs ++ [63, en, 63]) ++ (c ++ [63, 61]) := by rw [hs]; simp [wordL, headL]
  have hhl : ([61, 63] ++ L cs ++ [63, en, 63]).length = 10 := by simp [hcl]
  refine ⟨decide_eq_false (by omega), ?_, ?_, s.extract 10 (10 + c.length), ?_, fun w => ?_⟩
  · apply L_inj
    rw [L_to, hh, List.take_append_of_le_length (by omega), List.take_of_length_le (by omega), append_L, append_L]
    rfl
  · have h2 : (s.extract (s.size - 2) s.size).toList = [63, 61] := by
      rw [toList_L, L_from, hh, ← List.append_assoc, List.drop_append_of_le_length (by simp [hcl]; omega), List.drop_eq_nil_of_le (by simp [hcl]; omega)]
      rfl
    rw [h2]; rfl
  · rw [extract_L, hh, List.drop_append_of_le_length (by omega), List.drop_eq_nil_of_le (by omega), List.nil_append, Nat.add_sub_cancel_left, List.take_append_of_le_length (Nat.le_refl _), List.take_length]
  · rw [run_slice_string w 9 s .i64 .i64 (2 + (cs.size : Int) + 3) ((s.size : Int) - 2) Tryd.underlying9 (by omega) (by omega) (by omega)]
    congr 3
    · omega
    · omega

set_option maxHeartbeats 1000000 in
theorem wordQ_c (cs s : ByteArray) (c : List UInt8) (w : World) (hc : csOk cs) (hs : L s = wordL (L cs) 113 c) (ho : okC true c) :
    Calls Tryd.prog 14 #[.string s, .string cs, .bool true] w (Pure (.bool true) w) := by
  have hcs := csOk_size hc
  obtain ⟨f1, f2, f3, X, hX, f4⟩ := word_facts cs s c 113 hcs hs
  have hXz : X.size = c.length := by rw [← L_length, hX]
  have hsz : s.size = c.length + 12 := by
    rw [← L_length, hs]
    simp [wordL, headL, L_length, hcs]
    omega
  have z1 : cs.size ≤ 5 := by omega
  have z2 : 5 ≤ cs.size := by omega
  have z3 : s.size ≤ 80 := by have := ho.2.1; omega
  have z4 : 12 ≤ s.size := by omega
  have z5 : 1 ≤ X.size := by have := ho.1; omega
  have z6 : X.size ≤ 63 := by have := ho.2.1; omega
  have HX := Lib.hid (show ∀ (k : Nat) (h : k < X.size), okB true X[k] = true from fun k h => ho.2.2 _ (by
    rw [← hX]
    have := L_drop X k h
    exact List.mem_of_mem_drop (i := k) (by rw [this]; exact List.mem_cons_self)))
  clear hc hs ho hcs hsz hX hXz
  go_enter Tryd.func14, Tryd.ntmps14
  go_wp2_with fail
  go_loop [8] (fun i => ∃ k : Nat, k ≤ X.size ∧ i = .int .i64 k) (fun i => X.size - (intOf i).toNat)
  case atStart => exact ⟨0, Nat.zero_le _, rfl⟩
  case round =>
    obtain ⟨k, hk, rfl⟩ := hrel
    clear f1 f2 f3 f4
    by_cases hlt : k < X.size
    · obtain ⟨t1, t2, t3⟩ := okB_tests true X[k] (HX.out k hlt)
      go_wp2_with fail
      go_round
      case rel => exact ⟨k + 1, by omega, by go_num⟩
      case measure => simp [intOf]; omega
    · go_wp2_with fail
      go_ret
      exact ⟨ret_bool (decide_eq_true (by omega)), rfl⟩
set_option maxHeartbeats 1000000 in
theorem wordB_c (cs s : ByteArray) (c : List UInt8) (w : World) (hc : csOk cs) (hs : L s = wordL (L cs) 98 c) (ho : okC false c) :
    Calls Tryd.prog 14 #[.string s, .string cs, .bool false] w (Pure (.bool true) w) := by
  have hcs := csOk_size hc
  obtain ⟨f1, f2, f3, X, hX, f4⟩ := word_facts cs s c 98 hcs hs
  have hXz : X.size = c.length := by rw [← L_length, hX]
  have hsz : s.size = c.length + 12 := by
    rw [← L_length, hs]
    simp [wordL, headL, L_length, hcs]
    omega
  have z1 : cs.size ≤ 5 := by omega
  have z2 : 5 ≤ cs.size := by omega
  have z3 : s.size ≤ 80 := by have := ho.2.1; omega
  have z4 : 12 ≤ s.size := by omega
  have z5 : 1 ≤ X.size := by have := ho.1; omega
  have z6 : X.size ≤ 63 := by have := ho.2.1; omega
  have HX := Lib.hid (show ∀ (k : Nat) (h : k < X.size), okB false X[k] = true from fun k h => ho.2.2 _ (by
    rw [← hX]
    have := L_drop X k h
    exact List.mem_of_mem_drop (i := k) (by rw [this]; exact List.mem_cons_self)))
  clear hc hs ho hcs hsz hX hXz
  go_enter Tryd.func14, Tryd.ntmps14
  go_wp2_with fail
  go_loop [8] (fun i => ∃ k : Nat, k ≤ X.size ∧ i = .int .i64 k) (fun i => X.size - (intOf i).toNat)
  case atStart => exact ⟨0, Nat.zero_le _, rfl⟩
  case round =>
    obtain ⟨k, hk, rfl⟩ := hrel
    clear f1 f2 f3 f4
    by_cases hlt : k < X.size
    · obtain ⟨t1, t2, t3⟩ := okB_tests false X[k] (HX.out k hlt)
      by_cases h61 : X[k] = 61
      · have t4 := bne_yes X[k] 61 61 rfl h61
        clear h61
        go_wp2_with fail
        go_round
        case rel => exact ⟨k + 1, by omega, by go_num⟩
        case measure => simp [intOf]; omega
      · have t4 := bne_no X[k] 61 61 rfl h61
        have hb := okB_dig X[k] (HX.out k hlt) h61
        have HW := Lib.hid (fun w => within_c ⟨#[65, 66, 67, 68, 69, 70, 71, 72, 73, 74, 75, 76, 77, 78, 79, 80, 81, 82, 83, 84, 85, 86, 87, 88, 89, 90, 97, 98, 99, 100, 101, 102, 103, 104, 105, 106, 107, 108, 109, 110, 111, 112, 113, 114, 115, 116, 117, 118, 119, 120, 121, 122, 48, 49, 50, 51, 52, 53, 54, 55, 56, 57, 43, 47]⟩ X[k] w (by decide))
        have HB := Lib.hid hb
        clear h61 hb
        go_wp2_with fail
        refine (HW.out _).mono ?_
        rintro e w' ⟨rfl, rfl⟩
        rw [show hasB (L (⟨#[65, 66, 67, 68, 69, 70, 71, 72, 73, 74, 75, 76, 77, 78, 79, 80, 81, 82, 83, 84, 85, 86, 87, 88, 89, 90, 97, 98, 99, 100, 101, 102, 103, 104, 105, 106, 107, 108, 109, 110, 111, 112, 113, 114, 115, 116, 117, 118, 119, 120, 121, 122, 48, 49, 50, 51, 52, 53, 54, 55, 56, 57, 43, 47]⟩ : ByteArray)) X[k] = true from HB.out]
        go_wp2_with fail
        go_round
        case rel => exact ⟨k + 1, by omega, by go_num⟩
        case measure => simp [intOf]; omega
    · go_wp2_with fail
      go_ret
      exact ⟨ret_bool (decide_eq_true (by omega)), rfl⟩
end Go.Proofs.YtdoddigmfckhmaaDoor
