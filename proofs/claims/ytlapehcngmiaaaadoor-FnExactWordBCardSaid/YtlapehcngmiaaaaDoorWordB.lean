/-
  THE WALK OF FnExactWordB: an encoded word in the B encoding gives its text; for every charset and every text, where unicode/utf8's tables lie as the program's text lays them.
-/
import Derived.Test.YtlapehcngmiaaaaDoorDecS
import Derived.Test.YtlapehcngmiaaaaDoorWordQ
import Derived.Test.YtlapehcngmiaaaaDoorBText
namespace Go.Proofs.YtlapehcngmiaaaaDoor
open Go.RowKit

set_option maxHeartbeats 1000000 in
set_option maxRecDepth 100000 in
theorem fnExactWordB_walk (c : ByteArray) (big : Bool) (s : ByteArray) (w : World) (mc : c.size ≤ maxLen) (ms : s.size ≤ maxLen) (hT : Lib.Utf8Tabs 0 1 w) :
    Calls Tryd.prog 4 #[.string c, .bool big, .string s] w (Makes (.bool true) w) := by
  unfold maxLen at mc ms
  have HT := Lib.hid hT
  clear hT
  by_cases h0 : (2147483647 : Int) < (c.size : Int)
  · go_enter Tryd.func4, Tryd.ntmps4
    go_wp2
    go_ret
    exact ⟨rfl, Below.refl _ _⟩
  have d0 : decide ((2147483647 : Int) < (c.size : Int)) = false := by simpa using h0
  by_cases h1 : (2147483647 : Int) < (s.size : Int)
  · go_enter Tryd.func4, Tryd.ntmps4
    go_wp2
    go_ret
    exact ⟨rfl, Below.refl _ _⟩
  have d1 : decide ((2147483647 : Int) < (s.size : Int)) = false := by simpa using h1
  by_cases h2 : (16777216 : Int) < (c.size : Int)
  · go_enter Tryd.func4, Tryd.ntmps4
    go_wp2
    go_ret
    exact ⟨rfl, Below.refl _ _⟩
  have d2 : decide ((16777216 : Int) < (c.size : Int)) = false := by simpa using h2
  by_cases h3 : (16777216 : Int) < (s.size : Int)
  · go_enter Tryd.func4, Tryd.ntmps4
    go_wp2
    go_ret
    exact ⟨rfl, Below.refl _ _⟩
  have d3 : decide ((16777216 : Int) < (s.size : Int)) = false := by simpa using h3
  have hc40 : c.size ≤ 1099511627776 := by omega
  have hs1 : s.size ≤ 1099511627776 := by omega
  obtain ⟨q, hq, hqs⟩ := text_of (b64 (L s))
  have hq1 : q.size ≤ 6442450944 := by rw [hqs, b64_len, L_length]; omega
  have hq40 : q.size ≤ 1099511627776 := by omega
  have HQ := Lib.hid (show (⟨(b64 (L s)).toArray⟩ : ByteArray) = q from L_inj (by rw [L_mk, hq]))
  obtain ⟨want, ok, he, hok⟩ := said_split _ s (charsN_cases (L c))
  have HE := Lib.hid he
  cases ok
  · clear hq hqs he hok h0 h1 h2 h3
    go_enter Tryd.func4, Tryd.ntmps4
    go_wp2_with fail
    refine (said_c c s _ hc40 hs1 HT.out).mono ?_
    rintro e w2 ⟨rfl, hb2⟩
    rw [HE.out]
    go_wp2_with fail
    go_ret
    exact ⟨rfl, hb2⟩
  · obtain ⟨hn, hw, ha⟩ := hok rfl
    obtain ⟨how, hhow⟩ : ∃ how : UInt8, how = if big = true then 66 else 98 := ⟨_, rfl⟩
    have h81 : how = 66 ∨ how = 98 := by rw [hhow]; split <;> simp
    have HG := Lib.hid (show ∀ (v : ByteArray) (w : World), L v = 61 :: 63 :: (L c ++ 63 :: how :: 63 :: (L q ++ [63, 61])) → Calls Tryd.prog 11 #[.string v] w (Makes (.tuple #[.string want, .bool true]) w) from fun v w hv => by
      rw [hw]
      refine implDecode_c v c q how (L s) w hv (by rcases h81 with h | h <;> rw [h] <;> decide) (by rw [hq]; exact fun hm => b64_plain _ _ hm rfl) hn ha ?_ (by rw [L_length]; omega) (fun w => decode_b _ q (L s) w (by rcases h81 with h | h <;> rw [h]; exact .inl rfl; exact .inr rfl) hq40 hq)
      have h := congrArg List.length hv
      simp only [List.length_append, List.length_cons, L_length, List.length_nil] at h
      omega)
    have HC : Hid (((charsN (L c)) == 0) = false) := Lib.hid (by rw [beq_eq_false_iff_ne]; exact hn)
    have HW := Lib.hid hhow
    clear hq hqs he hok h0 h1 h2 h3 hw ha hn h81 hhow
    have HF := Lib.hid fun (h : ByteArray) (w : World) (hh : h.size ≤ 1099511627776) => word_c c h q w hc40 hh hq40
    cases big
    · have HL := Lib.hid (show ∀ w : World, Calls Tryd.prog 11 #[.string (⟨#[61, 63]⟩ ++ c ++ ⟨#[63]⟩ ++ ⟨#[98]⟩ ++ ⟨#[63]⟩ ++ q ++ ⟨#[63, 61]⟩)] w (Makes (.tuple #[.string want, .bool true]) w) from fun w =>
        HG.out _ w (by rw [word_L, HW.out]; rfl))
      clear HG HW
      go_enter Tryd.func4, Tryd.ntmps4
      go_wp2_with fail
      refine (said_c c s _ hc40 hs1 HT.out).mono ?_
      rintro e w2 ⟨rfl, hb2⟩
      rw [HE.out]
      go_wp2_with fail
      refine (chars_c c _ hc40).mono ?_
      rintro e w3 ⟨rfl, hb3⟩
      have hC := HC.out
      have b3 : Below w.heap.size w w3 := hb2.trans (hb3.mono hb2.size)
      go_wp2_with fail
      refine (btext_c s _ hs1).mono ?_
      rintro e w4 ⟨rfl, hb4⟩
      rw [HQ.out]
      go_wp2_with fail
      refine (HF.out _ _ (by decide)).mono ?_
      rintro e w5 ⟨rfl, rfl⟩
      go_wp2_with fail
      refine (HL.out _).mono ?_
      rintro e w6 ⟨rfl, hb6⟩
      go_wp2_with fail
      go_ret
      have b4 := b3.trans (hb4.mono b3.size)
      exact ⟨rfl, b4.trans (hb6.mono b4.size)⟩
    · have HL := Lib.hid (show ∀ w : World, Calls Tryd.prog 11 #[.string (⟨#[61, 63]⟩ ++ c ++ ⟨#[63]⟩ ++ ⟨#[66]⟩ ++ ⟨#[63]⟩ ++ q ++ ⟨#[63, 61]⟩)] w (Makes (.tuple #[.string want, .bool true]) w) from fun w =>
        HG.out _ w (by rw [word_L, HW.out]; rfl))
      clear HG HW
      go_enter Tryd.func4, Tryd.ntmps4
      go_wp2_with fail
      refine (said_c c s _ hc40 hs1 HT.out).mono ?_
      rintro e w2 ⟨rfl, hb2⟩
      rw [HE.out]
      go_wp2_with fail
      refine (chars_c c _ hc40).mono ?_
      rintro e w3 ⟨rfl, hb3⟩
      have hC := HC.out
      have b3 : Below w.heap.size w w3 := hb2.trans (hb3.mono hb2.size)
      go_wp2_with fail
      refine (btext_c s _ hs1).mono ?_
      rintro e w4 ⟨rfl, hb4⟩
      rw [HQ.out]
      go_wp2_with fail
      refine (HF.out _ _ (by decide)).mono ?_
      rintro e w5 ⟨rfl, rfl⟩
      go_wp2_with fail
      refine (HL.out _).mono ?_
      rintro e w6 ⟨rfl, hb6⟩
      go_wp2_with fail
      go_ret
      have b4 := b3.trans (hb4.mono b3.size)
      exact ⟨rfl, b4.trans (hb6.mono b4.size)⟩
end Go.Proofs.YtlapehcngmiaaaaDoor
