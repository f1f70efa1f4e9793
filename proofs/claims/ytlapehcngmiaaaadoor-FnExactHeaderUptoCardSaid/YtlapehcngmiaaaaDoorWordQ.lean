/-
  THE WALK OF FnExactWordQ: an encoded word in the Q encoding gives its text; for every charset and every list of signs, where unicode/utf8's tables lie as the program's text lays them.
-/
import Derived.Test.YtlapehcngmiaaaaDoorDec
namespace Go.Proofs.YtlapehcngmiaaaaDoor
open Go.RowKit

/-- What Said says, and what convert makes of it. -/
theorem said_split (n : Int) (s : ByteArray) (h : n = 1 ∨ n = 2 ∨ n = 3 ∨ n = 0) : ∃ (want : ByteArray) (ok : Bool), saidT n s = .tuple #[.string want, .bool ok] ∧
    (ok = true → n ≠ 0 ∧ want = ⟨(convB n (L s)).toArray⟩ ∧ (n = 3 → (L s).all asciiB = true)) := by
  rcases h with rfl | rfl | rfl | rfl
  · exact ⟨s, _, by unfold saidT; rw [if_pos rfl], fun _ => ⟨by decide, by unfold convB; rw [if_neg (by decide), mk_L], fun h => by cases h⟩⟩
  · exact ⟨_, _, by unfold saidT; rw [if_neg (by decide), if_pos rfl], fun _ => ⟨by decide, by unfold convB; rw [if_pos rfl], fun h => by cases h⟩⟩
  · exact ⟨s, _, by unfold saidT; rw [if_neg (by decide), if_neg (by decide), if_pos rfl], fun h => ⟨by decide, by unfold convB; rw [if_neg (by decide), mk_L], fun _ => h⟩⟩
  · exact ⟨_, _, by unfold saidT; rw [if_neg (by decide), if_neg (by decide), if_neg (by decide)], fun h => by cases h⟩

theorem hex_plain : ∀ i : Fin 16, hexCap i.val ≠ 63 ∧ hexLow i.val ≠ 63 := by decide +kernel
theorem written_63 (x : Sg) : (63 : UInt8) ∉ written x := by
  have hi : x.b.toNat / 16 < 16 := by have := x.b.toNat_lt; omega
  have h1 := hex_plain ⟨_, hi⟩
  have h2 := hex_plain ⟨x.b.toNat % 16, by omega⟩
  unfold written
  split
  · next h =>
    intro e
    simp at e
    have := h.2
    rw [← e] at this
    revert this
    decide
  · split
    · decide
    · split
      · simp only [List.mem_cons, List.not_mem_nil, or_false, not_or]
        exact ⟨by decide, fun e => h1.2 e.symm, fun e => h2.2 e.symm⟩
      · simp only [List.mem_cons, List.not_mem_nil, or_false, not_or]
        exact ⟨by decide, fun e => h1.1 e.symm, fun e => h2.1 e.symm⟩
theorem qtext_63 (l : List Sg) : (63 : UInt8) ∉ qtext l := by
  unfold qtext
  rw [List.mem_flatMap]
  rintro ⟨x, _, h⟩
  exact written_63 x h
theorem qdec_sign (y : Sg) (r x : List UInt8) (h : QDec r x) : QDec (written y ++ r) (y.b :: x) := by
  unfold written
  split
  · next h1 => exact .plain h1.2 h
  · split
    · next h2 => rw [h2.2]; exact .under h
    · split
      · obtain ⟨h1, h2, h3⟩ := low_hex ⟨y.b.toNat, y.b.toNat_lt⟩
        have := QDec.hex h1 h2 h
        rw [h3] at this
        simpa using this
      · obtain ⟨h1, h2, h3⟩ := cap_hex ⟨y.b.toNat, y.b.toNat_lt⟩
        have := QDec.hex h1 h2 h
        rw [h3] at this
        simpa using this
theorem qdec_qtext (l : List Sg) : QDec (qtext l) (l.map (·.b)) := by
  unfold qtext
  induction l with
  | nil => exact .nil
  | cons y r ih => rw [List.flatMap_cons, List.map_cons]; exact qdec_sign y _ _ ih

set_option maxHeartbeats 1000000 in
set_option maxRecDepth 100000 in
theorem fnExactWordQ_walk (c : ByteArray) (big : Bool) (v : Value) (l : List Sg) (w : World) (mc : c.size ≤ maxLen) (hv : Signs v l w) (hl : l.length ≤ maxLen) (hT : Lib.Utf8Tabs 0 1 w) :
    Calls Tryd.prog 5 #[.string c, .bool big, v] w (Makes (.bool true) w) := by
  unfold maxLen at hl mc
  have HT := Lib.hid hT
  clear hT
  have hv' := hv
  obtain ⟨p, cp, rfl, hc1, hc2, hcells⟩ := hv'
  clear hcells
  by_cases h0 : (2147483647 : Int) < (c.size : Int)
  · go_enter Tryd.func5, Tryd.ntmps5
    go_wp2
    go_ret
    exact ⟨rfl, Below.refl _ _⟩
  have d0 : decide ((2147483647 : Int) < (c.size : Int)) = false := by simpa using h0
  by_cases h1 : (2147483647 : Int) < (l.length : Int)
  · go_enter Tryd.func5, Tryd.ntmps5
    go_wp2
    go_ret
    exact ⟨rfl, Below.refl _ _⟩
  have d1 : decide ((2147483647 : Int) < (l.length : Int)) = false := by simpa using h1
  by_cases h2 : (16777216 : Int) < (c.size : Int)
  · go_enter Tryd.func5, Tryd.ntmps5
    go_wp2
    go_ret
    exact ⟨rfl, Below.refl _ _⟩
  have d2 : decide ((16777216 : Int) < (c.size : Int)) = false := by simpa using h2
  have hl31 : l.length ≤ 2147483648 := by omega
  have hc40 : c.size ≤ 1099511627776 := by omega
  obtain ⟨q, hq, hqs⟩ := text_of (qtext l)
  have hq1 : q.size ≤ 6442450944 := by rw [hqs]; have := qtext_len l; omega
  have hq40 : q.size ≤ 1099511627776 := by omega
  have HQ := Lib.hid (show (⟨(qtext l).toArray⟩ : ByteArray) = q from L_inj (by rw [L_mk, hq]))
  obtain ⟨s, hs, hss⟩ := text_of (l.map (·.b))
  have hs1 : s.size ≤ 1099511627776 := by rw [hss, List.length_map]; omega
  have HS := Lib.hid (show (⟨(l.map (·.b)).toArray⟩ : ByteArray) = s from L_inj (by rw [L_mk, hs]))
  obtain ⟨want, ok, he, hok⟩ := said_split _ s (charsN_cases (L c))
  have HE := Lib.hid he
  have HV := Lib.hid hv
  cases ok
  · clear hq hqs hs hss he hok h0 h1 h2 hv
    go_enter Tryd.func5, Tryd.ntmps5
    go_wp2_with fail
    refine (bytes_c _ l _ HV.out hl31).mono ?_
    rintro e w1 ⟨rfl, hb1⟩
    rw [HS.out]
    go_wp2_with fail
    refine (said_c c s _ hc40 hs1 (Utf8Tabs_below HT.out hb1)).mono ?_
    rintro e w2 ⟨rfl, hb2⟩
    rw [HE.out]
    go_wp2_with fail
    go_ret
    exact ⟨rfl, hb1.trans (hb2.mono hb1.size)⟩
  · obtain ⟨hn, hw, ha⟩ := hok rfl
    obtain ⟨how, hhow⟩ : ∃ how : UInt8, how = if big = true then 81 else 113 := ⟨_, rfl⟩
    have h81 : how = 81 ∨ how = 113 := by rw [hhow]; split <;> simp
    have HG := Lib.hid (show ∀ (v : ByteArray) (w : World), L v = 61 :: 63 :: (L c ++ 63 :: how :: 63 :: (L q ++ [63, 61])) → Calls Tryd.prog 11 #[.string v] w (Makes (.tuple #[.string want, .bool true]) w) from fun v w hv => by
      rw [hw]
      refine implDecode_c v c q how (L s) w hv (by rcases h81 with h | h <;> rw [h] <;> decide) (by rw [hq]; exact qtext_63 l) hn ha ?_ (by rw [L_length]; omega) (fun w => decode_q _ q (L s) w (by rcases h81 with h | h <;> rw [h]; exact .inl rfl; exact .inr rfl) hq40 (by rw [hq, hs]; exact qdec_qtext l))
      have h := congrArg List.length hv
      simp only [List.length_append, List.length_cons, L_length, List.length_nil] at h
      omega)
    have HC : Hid (((charsN (L c)) == 0) = false) := Lib.hid (by rw [beq_eq_false_iff_ne]; exact hn)
    have HW := Lib.hid hhow
    clear hq hqs hs hss he hok h0 h1 h2 hv hw ha hn h81 hhow
    have HF := Lib.hid fun (h : ByteArray) (w : World) (hh : h.size ≤ 1099511627776) => word_c c h q w hc40 hh hq40
    cases big
    · have HL := Lib.hid (show ∀ w : World, Calls Tryd.prog 11 #[.string (⟨#[61, 63]⟩ ++ c ++ ⟨#[63]⟩ ++ ⟨#[113]⟩ ++ ⟨#[63]⟩ ++ q ++ ⟨#[63, 61]⟩)] w (Makes (.tuple #[.string want, .bool true]) w) from fun w =>
        HG.out _ w (by rw [word_L, HW.out]; rfl))
      clear HG HW
      go_enter Tryd.func5, Tryd.ntmps5
      go_wp2_with fail
      refine (bytes_c _ l _ HV.out hl31).mono ?_
      rintro e w1 ⟨rfl, hb1⟩
      rw [HS.out]
      go_wp2_with fail
      refine (said_c c s _ hc40 hs1 (Utf8Tabs_below HT.out hb1)).mono ?_
      rintro e w2 ⟨rfl, hb2⟩
      rw [HE.out]
      go_wp2_with fail
      refine (chars_c c _ hc40).mono ?_
      rintro e w3 ⟨rfl, hb3⟩
      have hC := HC.out
      have b3 : Below w.heap.size w w3 := (hb1.trans (hb2.mono hb1.size)).trans (hb3.mono (Nat.le_trans hb1.size hb2.size))
      go_wp2_with fail
      refine (qtext_c _ l _ (HV.out.below b3) hl31).mono ?_
      rintro e w4 ⟨rfl, hb4⟩
      rw [HQ.out]
      go_wp2_with fail
      refine (HF.out _ _ (by decide)).mono ?_
      rintro e w5 ⟨rfl, rfl⟩
      go_wp2_with fail
      refine (HL.out _).mono ?_
      rintro e w6 ⟨rfl, hb6⟩
      go_wp2_with fail
      go_ret
      have b4 := b3.trans (hb4.mono b3.size)
      exact ⟨rfl, b4.trans (hb6.mono b4.size)⟩
    · have HL := Lib.hid (show ∀ w : World, Calls Tryd.prog 11 #[.string (⟨#[61, 63]⟩ ++ c ++ ⟨#[63]⟩ ++ ⟨#[81]⟩ ++ ⟨#[63]⟩ ++ q ++ ⟨#[63, 61]⟩)] w (Makes (.tuple #[.string want, .bool true]) w) from fun w =>
        HG.out _ w (by rw [word_L, HW.out]; rfl))
      clear HG HW
      go_enter Tryd.func5, Tryd.ntmps5
      go_wp2_with fail
      refine (bytes_c _ l _ HV.out hl31).mono ?_
      rintro e w1 ⟨rfl, hb1⟩
      rw [HS.out]
      go_wp2_with fail
      refine (said_c c s _ hc40 hs1 (Utf8Tabs_below HT.out hb1)).mono ?_
      rintro e w2 ⟨rfl, hb2⟩
      rw [HE.out]
      go_wp2_with fail
      refine (chars_c c _ hc40).mono ?_
      rintro e w3 ⟨rfl, hb3⟩
      have hC := HC.out
      have b3 : Below w.heap.size w w3 := (hb1.trans (hb2.mono hb1.size)).trans (hb3.mono (Nat.le_trans hb1.size hb2.size))
      go_wp2_with fail
      refine (qtext_c _ l _ (HV.out.below b3) hl31).mono ?_
      rintro e w4 ⟨rfl, hb4⟩
      rw [HQ.out]
      go_wp2_with fail
      refine (HF.out _ _ (by decide)).mono ?_
      rintro e w5 ⟨rfl, rfl⟩
      go_wp2_with fail
      refine (HL.out _).mono ?_
      rintro e w6 ⟨rfl, hb6⟩
      go_wp2_with fail
      go_ret
      have b4 := b3.trans (hb4.mono b3.size)
      exact ⟨rfl, b4.trans (hb6.mono b4.size)⟩
end Go.Proofs.YtlapehcngmiaaaaDoor
