/-
  THE WALKS OF FnExactValueQuoted AND FnExactValueToken: each returns true for every two texts, and writes nothing that was there.
-/
import Derived.Test.YthlbfllefekkcaaVal
import Derived.Test.YthlbfllefekkcaaQuote
namespace Go.Proofs.Ythlbfllefekkcaa
open Go.RowKit

theorem unq_esc_all (l acc r : List UInt8) (h : allB prB l = true) : unq acc false (esc l ++ 34 :: r) = some (acc ++ l, r) := by
  induction l generalizing acc with
  | nil => simp [esc, unq_quote]
  | cons c l ih =>
    rw [allB] at h
    split at h
    · rename_i hp
      rw [esc]
      split
      · rename_i hc
        rw [List.cons_append, List.cons_append, unq_esc _ _ _ (by rcases hc with hc | hc <;> rw [hc] <;> decide), ih _ h]
        simp
      · rename_i hc
        rw [List.cons_append, unq_plain _ _ _ (fun e => hc (.inr e)) (fun e => hc (.inl e.1)) (by rintro rfl; exact absurd hp (by decide)) (by rintro rfl; exact absurd hp (by decide)), ih _ h]
        simp
    · cases h
theorem quo_unq (l r : List UInt8) (h : allB prB l = true) : unq [] false ((quo l ++ r).drop 1) = some (l, r) := by
  have := unq_esc_all l [] r h
  simpa [quo] using this

theorem consumeValue_token (s : ByteArray) (w : World) (hs : s.size ≤ 1099511627776) (h0 : 0 < s.size) (hq : ¬ s[0] = 34) :
    Calls Try.prog 41 #[.string s] w (Quiet (tokPair s) w) := by
  have hemp := not_empty s h0
  have hq' : ((s[0].toNat : Int) != 34) = true := bne_no _ 34 _ rfl hq
  clear hq
  go_enter Try.func41, Try.ntmps41
  go_wp2_with fail
  refine (consumeToken_c s _ (by omega)).mono ?_
  rintro e w1 ⟨rfl, n, rfl⟩
  unfold tokPair
  go_wp2_with fail
  go_ret2
  exact ⟨rfl, n, rfl⟩

theorem value_quoted (s : ByteArray) (w : World) (a r : List UInt8) (hs : s.size ≤ 1099511627776) (hq : ∃ t, L s = 34 :: t) (hu : unq [] false ((L s).drop 1) = some (a, r)) :
    Calls Try.prog 23 #[.string s] w (Makes (.tuple #[.string ⟨a.toArray⟩, .string ⟨r.toArray⟩]) w) := by
  obtain ⟨t, ht⟩ := hq
  obtain ⟨h0, hc⟩ := head_of s ht
  have H : ∀ w : World, Calls Try.prog 41 #[.string s] w (Makes (.tuple #[.string ⟨a.toArray⟩, .string ⟨r.toArray⟩]) w) := fun w => by
    have h := consumeValue_quoted s w hs h0 hc
    rw [hu] at h
    exact h
  have HH := Lib.hid H
  clear H hu ht hc
  go_enter Try.func23, Try.ntmps23
  go_wp2_with fail
  go_in
  go_wp2_with fail
  refine (HH.out _).mono ?_
  rintro e w1 ⟨rfl, hb⟩
  go_wp2_with fail
  go_ret2
  exact ⟨rfl, hb⟩

theorem fnExactValueQuoted_walk (s rest : ByteArray) (w : World) (m1 : s.size ≤ maxLen) (m2 : rest.size ≤ maxLen) : Calls Try.prog 9 #[.string s, .string rest] w (Makes (.bool true) w) := by
  unfold maxLen at m1 m2
  by_cases h1 : (2147483647 : Int) < (s.size : Int)
  · go_enter Try.func9, Try.ntmps9
    go_wp2_with fail
    go_ret
    exact ⟨rfl, Below.refl _ _⟩
  have d1 : decide ((2147483647 : Int) < (s.size : Int)) = false := by simpa using h1
  by_cases h2 : (2147483647 : Int) < (rest.size : Int)
  · go_enter Try.func9, Try.ntmps9
    go_wp2_with fail
    go_ret
    exact ⟨rfl, Below.refl _ _⟩
  have d2 : decide ((2147483647 : Int) < (rest.size : Int)) = false := by simpa using h2
  by_cases h3 : (16777216 : Int) < (s.size : Int)
  · go_enter Try.func9, Try.ntmps9
    go_wp2_with fail
    go_ret
    exact ⟨rfl, Below.refl _ _⟩
  have d3 : decide ((16777216 : Int) < (s.size : Int)) = false := by simpa using h3
  by_cases h4 : (16777216 : Int) < (rest.size : Int)
  · go_enter Try.func9, Try.ntmps9
    go_wp2_with fail
    go_ret
    exact ⟨rfl, Below.refl _ _⟩
  have d4 : decide ((16777216 : Int) < (rest.size : Int)) = false := by simpa using h4
  cases hp : allB prB (L s)
  · go_enter Try.func9, Try.ntmps9
    go_wp2_with fail
    refine (printable_c s _ (by omega)).mono ?_
    rintro e w1 ⟨rfl, rfl⟩
    go_wp2_with fail
    go_ret
    exact ⟨rfl, Below.refl _ _⟩
  · obtain ⟨q, hq, hqs⟩ := text_of (quo (L s))
    have hql : q.size ≤ 40000000 := by
      rw [hqs, quo]
      have := esc_len (L s)
      rw [L_length] at this
      simp
      omega
    have hQ : ∀ w, Calls Try.prog 24 #[.string s] w (Makes (.string q) w) := fun w => by
      have h := quote_c s w (by omega)
      rwa [← hq, mk_L] at h
    have hV : ∀ w, Calls Try.prog 23 #[.string (q ++ rest)] w (Makes (.tuple #[.string s, .string rest]) w) := fun w => by
      have h := value_quoted (q ++ rest) w (L s) (L rest) (by rw [ByteArray.size_append]; omega) ⟨esc (L s) ++ [34] ++ L rest, by rw [append_L, hq]; simp [quo]⟩ (by rw [append_L, hq, quo_unq _ _ hp])
      rwa [mk_L, mk_L] at h
    have HQ := Lib.hid hQ
    have HV := Lib.hid hV
    clear hQ hV hq hqs
    go_enter Try.func9, Try.ntmps9
    go_wp2_with fail
    refine (printable_c s _ (by omega)).mono ?_
    rintro e w1 ⟨rfl, rfl⟩
    go_wp2_with fail
    refine (HQ.out _).mono ?_
    rintro e w1 ⟨rfl, hb1⟩
    go_wp2_with fail
    refine (HV.out _).mono ?_
    rintro e w2 ⟨rfl, hb2⟩
    go_wp2_with fail
    go_ret
    exact ⟨rfl, hb1.trans (hb2.mono hb1.size)⟩

theorem value_token (s : ByteArray) (w : World) (hs : s.size ≤ 1099511627776) (h0 : 0 < s.size) (hq : ¬ s[0] = 34) :
    Calls Try.prog 23 #[.string s] w (Quiet (tokPair s) w) := by
  have H := consumeValue_token s
  have HH := Lib.hid H
  clear H
  go_enter Try.func23, Try.ntmps23
  go_wp2_with fail
  go_in
  go_wp2_with fail
  refine (HH.out _ hs h0 hq).mono ?_
  rintro e w1 ⟨rfl, n, rfl⟩
  unfold tokPair
  go_wp2_with fail
  go_ret2
  exact ⟨rfl, n, rfl⟩

theorem tokN_append (l r : List UInt8) (h : allB tokB l = true) (hr : tokN r = 0) : tokN (l ++ r) = l.length := by
  induction l with
  | nil => simpa using hr
  | cons c l ih =>
    rw [allB] at h
    split at h
    · rename_i hc
      rw [List.cons_append, tokN, if_pos hc, ih h, List.length_cons]
    · cases h

theorem fnExactValueToken_walk (t rest : ByteArray) (w : World) (m1 : t.size ≤ maxLen) (m2 : rest.size ≤ maxLen) : Calls Try.prog 10 #[.string t, .string rest] w (Makes (.bool true) w) := by
  unfold maxLen at m1 m2
  by_cases h1 : (2147483647 : Int) < (t.size : Int)
  · go_enter Try.func10, Try.ntmps10
    go_wp2_with fail
    go_ret
    exact ⟨rfl, Below.refl _ _⟩
  have d1 : decide ((2147483647 : Int) < (t.size : Int)) = false := by simpa using h1
  by_cases h2 : (2147483647 : Int) < (rest.size : Int)
  · go_enter Try.func10, Try.ntmps10
    go_wp2_with fail
    go_ret
    exact ⟨rfl, Below.refl _ _⟩
  have d2 : decide ((2147483647 : Int) < (rest.size : Int)) = false := by simpa using h2
  by_cases h3 : (16777216 : Int) < (t.size : Int)
  · go_enter Try.func10, Try.ntmps10
    go_wp2_with fail
    go_ret
    exact ⟨rfl, Below.refl _ _⟩
  have d3 : decide ((16777216 : Int) < (t.size : Int)) = false := by simpa using h3
  by_cases h4 : (16777216 : Int) < (rest.size : Int)
  · go_enter Try.func10, Try.ntmps10
    go_wp2_with fail
    go_ret
    exact ⟨rfl, Below.refl _ _⟩
  have d4 : decide ((16777216 : Int) < (rest.size : Int)) = false := by simpa using h4
  -- the last steps, where the value is a token and no byte of one stands behind it
  have last : isTok (L t) = true → tokN (L rest) = 0 → ∀ w : World, Calls Try.prog 23 #[.string (t ++ rest)] w (Quiet (.tuple #[.string t, .string rest]) w) := by
    intro hp hr w
    rw [isTok, Bool.and_eq_true] at hp
    have hne : L t ≠ [] := by
      intro h
      rw [h] at hp
      exact absurd hp.1 (by decide)
    obtain ⟨c, r, hc⟩ : ∃ c r, L t = c :: r := by
      cases h : L t with
      | nil => exact absurd h hne
      | cons c r => exact ⟨c, r, rfl⟩
    obtain ⟨h0, hh⟩ := head_of (t ++ rest) (c := c) (r := r ++ L rest) (by rw [append_L, hc]; rfl)
    have hcb : tokB c = true := by
      have := hp.2
      rw [hc, allB] at this
      cases ht : tokB c
      · rw [ht] at this; simp at this
      · rfl
    have h := value_token (t ++ rest) w (by rw [ByteArray.size_append]; omega) h0 (by rw [hh]; rintro rfl; exact absurd hcb (by decide))
    have hn : tokN (L (t ++ rest)) = t.size := by rw [append_L, tokN_append _ _ hp.2 hr, L_length]
    have e1 : (t ++ rest).extract 0 t.size = t := L_inj (by rw [L_to, append_L, ← L_length, List.take_left])
    have e2 : (t ++ rest).extract t.size (t ++ rest).size = rest := L_inj (by rw [L_from, append_L, ← L_length, List.drop_left])
    rw [tokPair, hn, e1, e2] at h
    exact h
  have HL := Lib.hid last
  clear last
  cases hp : isTok (L t)
  · go_enter Try.func10, Try.ntmps10
    go_wp2_with fail
    refine (specIsToken_c t _ (by omega)).mono ?_
    rintro e w1 ⟨rfl, rfl⟩
    go_wp2_with fail
    go_ret
    exact ⟨rfl, Below.refl _ _⟩
  · by_cases hr0 : 0 < rest.size
    · have hd : decide ((0 : Int) < (rest.size : Int)) = true := by simpa using hr0
      cases hb : tokB rest[0]
      · have HV := Lib.hid (HL.out hp (by rw [L_head rest hr0, tokN, if_neg (by simp [hb])]))
        clear HL
        go_enter Try.func10, Try.ntmps10
        go_wp2_with fail
        refine (specIsToken_c t _ (by omega)).mono ?_
        rintro e w1 ⟨rfl, rfl⟩
        go_wp2_with fail
        refine (tokenByte_c _ _).mono ?_
        rintro e w1 ⟨rfl, rfl⟩
        go_wp2_with fail
        refine (HV.out _).mono ?_
        rintro e w1 ⟨rfl, n, rfl⟩
        go_wp2_with fail
        go_ret
        exact ⟨rfl, below_drewN (Below.refl _ _) _⟩
      · clear HL
        go_enter Try.func10, Try.ntmps10
        go_wp2_with fail
        refine (specIsToken_c t _ (by omega)).mono ?_
        rintro e w1 ⟨rfl, rfl⟩
        go_wp2_with fail
        refine (tokenByte_c _ _).mono ?_
        rintro e w1 ⟨rfl, rfl⟩
        go_wp2_with fail
        go_ret
        exact ⟨rfl, Below.refl _ _⟩
    · have hd : decide ((0 : Int) < (rest.size : Int)) = false := by simpa using hr0
      have HV := Lib.hid (HL.out hp (by
        have : L rest = [] := List.eq_nil_of_length_eq_zero (by rw [L_length]; omega)
        rw [this]; rfl))
      clear HL
      go_enter Try.func10, Try.ntmps10
      go_wp2_with fail
      refine (specIsToken_c t _ (by omega)).mono ?_
      rintro e w1 ⟨rfl, rfl⟩
      go_wp2_with fail
      refine (HV.out _).mono ?_
      rintro e w1 ⟨rfl, n, rfl⟩
      go_wp2_with fail
      go_ret
      exact ⟨rfl, below_drewN (Below.refl _ _) _⟩
end Go.Proofs.Ythlbfllefekkcaa
