/-
  CONTRACT OF spec's Type; and what a type is, in plain Lean; for texts of at most 2 to the 40th bytes.
-/
import Derived.Test.YtglffpjobjpmpaaDoorStr
namespace Go.Proofs.YtglffpjobjpmpaaDoor
open Go.RowKit

theorem tokN_append (l r : List UInt8) (h : allB tokB l = true) (hr : tokN r = 0) : tokN (l ++ r) = l.length := by
  induction l with
  | nil => simpa using hr
  | cons c l ih =>
    rw [allB] at h
    split at h
    · rename_i hc
      rw [List.cons_append, tokN, if_pos hc, ih h, List.length_cons]
    · cases h

/-- A type: a token, or two with a slash between. -/
def TypeIs (l : List UInt8) : Prop := isTok l = true ∨ ∃ a b, l = a ++ 47 :: b ∧ isTok a = true ∧ isTok b = true
theorem isTok_parts (l : List UInt8) (h : isTok l = true) : l ≠ [] ∧ allB tokB l = true := by
  rw [isTok, Bool.and_eq_true] at h
  refine ⟨?_, h.2⟩
  intro e
  rw [e] at h
  exact absurd h.1 (by decide)
theorem isTok_mk (l : List UInt8) (h0 : l ≠ []) (h : allB tokB l = true) : isTok l = true := by
  rw [isTok, h]
  cases l with
  | nil => exact absurd rfl h0
  | cons c r => rfl
theorem tokN_take (l : List UInt8) : allB tokB (l.take (tokN l)) = true := by
  induction l with
  | nil => rfl
  | cons c r ih =>
    rw [tokN]
    split
    · next h => rw [List.take_succ_cons, allB, if_pos h]; exact ih
    · rfl
theorem tokN_stop (l : List UInt8) (c : UInt8) (r : List UInt8) (h : l.drop (tokN l) = c :: r) : tokB c = false := by
  induction l with
  | nil => cases h
  | cons d s ih =>
    rw [tokN] at h
    split at h
    · rw [List.drop_succ_cons] at h; exact ih h
    · next hd =>
      rw [List.drop_zero] at h
      cases h
      simpa using hd
/-- The test of spec's Type. -/
theorem type_iff (l : List UInt8) : TypeIs l ↔ 0 < tokN l ∧ (tokN l = l.length ∨ ∃ b, l.drop (tokN l) = 47 :: b ∧ isTok b = true) := by
  constructor
  · rintro (h | ⟨a, b, rfl, ha, hb⟩)
    · obtain ⟨h0, h1⟩ := isTok_parts l h
      have e : tokN l = l.length := by
        have := tokN_all l
        rw [h1] at this
        have := eq_of_beq this
        omega
      refine ⟨?_, .inl e⟩
      rw [e]
      exact List.length_pos_iff.2 h0
    · obtain ⟨h0, h1⟩ := isTok_parts a ha
      have e : tokN (a ++ 47 :: b) = a.length := tokN_append _ _ h1 (by rw [tokN, if_neg (by decide)])
      refine ⟨by rw [e]; exact List.length_pos_iff.2 h0, .inr ⟨b, by rw [e, List.drop_left], hb⟩⟩
  · rintro ⟨h0, h | ⟨b, hd, hb⟩⟩
    · left
      refine isTok_mk l ?_ ?_
      · intro e; rw [e] at h0; simp [tokN] at h0
      · have := tokN_take l
        rw [h, List.take_length] at this
        exact this
    · right
      refine ⟨l.take (tokN l), b, by rw [← hd, List.take_append_drop], isTok_mk _ ?_ (tokN_take l), hb⟩
      intro e
      have := congrArg List.length e
      have h1 := tokN_le l
      simp only [List.length_take, List.length_nil] at this
      omega

set_option maxRecDepth 100000 in
theorem type_yes (t : ByteArray) (w : World) (ht : t.size ≤ 1099511627776) (h : TypeIs (L t)) : Calls Tryd.prog 11 #[.string t] w (Pure (.bool true) w) := by
  obtain ⟨h0, h1⟩ := (type_iff _).1 h
  have hk := tokN_le (L t)
  rw [L_length] at hk
  obtain ⟨k, hk0⟩ : ∃ k, k = tokN (L t) := ⟨_, rfl⟩
  have HT : Hid (∀ w, Calls Tryd.prog 20 #[.string t] w (Pure (.int .i64 (k : Int)) w)) := Lib.hid fun w => by rw [hk0]; exact tokenEnd_c t w (by omega)
  rw [← hk0] at h0 h1 hk
  clear hk0
  have d0 : decide ((0 : Int) < (k : Int)) = true := by simp; omega
  rcases h1 with h1 | ⟨b, hd, hb⟩
  · rw [L_length] at h1
    have d1 : ((k : Int) == (t.size : Int)) = true := by rw [h1]; exact beq_self_eq_true _
    clear h1 h
    go_enter Tryd.func11, Tryd.ntmps11
    go_wp2_with fail
    refine (HT.out _).mono ?_
    rintro e w1 ⟨rfl, rfl⟩
    go_wp2_with fail
    go_ret
    exact ⟨rfl, rfl⟩
  · have hkl : k < t.size := by
      rcases Nat.lt_or_ge k t.size with h2 | h2
      · exact h2
      · rw [L_drop_end t k (by omega)] at hd; cases hd
    rw [L_drop t k hkl] at hd
    have hc : t[k] = 47 := (List.cons.inj hd).1
    have hr : (L t).drop (k + 1) = b := (List.cons.inj hd).2
    have d1 : ((k : Int) == (t.size : Int)) = false := by rw [beq_eq_false_iff_ne]; omega
    have t47 : ((t[k].toNat : Int) == 47) = true := beq_yes _ 47 _ rfl hc
    have hw1 : IntKind.i64.wrap ((k : Int) + 1) = (k : Int) + 1 := IntWalk.i64_in _ (by omega)
    have hi0 : (0 : Int) ≤ (k : Int) + 1 := by omega
    have hi1 : (k : Int) + 1 ≤ (t.size : Int) := by omega
    have HS : Hid (∀ w, Calls Tryd.prog 12 #[.string (t.extract (k + 1) t.size)] w (Pure (.bool true) w)) := Lib.hid fun w => by
      have c := specIsToken_c (t.extract (k + 1) t.size) w (by rw [← L_length, L_from, List.length_drop, L_length]; omega)
      rw [L_from, hr, hb] at c
      exact c
    have hi2 : ((k : Int) + 1).toNat = k + 1 := by omega
    clear hd hc hr hb h
    go_enter Tryd.func11, Tryd.ntmps11
    go_wp2_with fail
    refine (HT.out _).mono ?_
    rintro e w1 ⟨rfl, rfl⟩
    go_wp2_with fail
    refine (HS.out _).mono ?_
    rintro e w1 ⟨rfl, rfl⟩
    go_wp2_with fail
    go_ret
    exact ⟨rfl, rfl⟩
set_option maxRecDepth 100000 in
theorem type_no (t : ByteArray) (w : World) (ht : t.size ≤ 1099511627776) (h : ¬ TypeIs (L t)) : Calls Tryd.prog 11 #[.string t] w (Pure (.bool false) w) := by
  rw [type_iff] at h
  have hk := tokN_le (L t)
  rw [L_length] at hk
  obtain ⟨k, hk0⟩ : ∃ k, k = tokN (L t) := ⟨_, rfl⟩
  have HT : Hid (∀ w, Calls Tryd.prog 20 #[.string t] w (Pure (.int .i64 (k : Int)) w)) := Lib.hid fun w => by rw [hk0]; exact tokenEnd_c t w (by omega)
  rw [← hk0] at h hk
  clear hk0
  by_cases h0 : 0 < k
  · have d0 : decide ((0 : Int) < (k : Int)) = true := by simp; omega
    have h1 : k ≠ t.size := fun e => h ⟨h0, .inl (by rw [L_length]; exact e)⟩
    have d1 : ((k : Int) == (t.size : Int)) = false := by rw [beq_eq_false_iff_ne]; omega
    have hkl : k < t.size := by omega
    by_cases hc : t[k] = 47
    · have t47 : ((t[k].toNat : Int) == 47) = true := beq_yes _ 47 _ rfl hc
      have hw1 : IntKind.i64.wrap ((k : Int) + 1) = (k : Int) + 1 := IntWalk.i64_in _ (by omega)
      have hi0 : (0 : Int) ≤ (k : Int) + 1 := by omega
      have hi1 : (k : Int) + 1 ≤ (t.size : Int) := by omega
      have hi2 : ((k : Int) + 1).toNat = k + 1 := by omega
      have hb : isTok ((L t).drop (k + 1)) = false := by
        cases hb : isTok ((L t).drop (k + 1))
        · rfl
        · exact absurd ⟨h0, .inr ⟨_, by rw [L_drop t k hkl, hc], hb⟩⟩ h
      have HS : Hid (∀ w, Calls Tryd.prog 12 #[.string (t.extract (k + 1) t.size)] w (Pure (.bool false) w)) := Lib.hid fun w => by
        have c := specIsToken_c (t.extract (k + 1) t.size) w (by rw [← L_length, L_from, List.length_drop, L_length]; omega)
        rw [L_from, hb] at c
        exact c
      clear hc hb h h1
      go_enter Tryd.func11, Tryd.ntmps11
      go_wp2_with fail
      refine (HT.out _).mono ?_
      rintro e w1 ⟨rfl, rfl⟩
      go_wp2_with fail
      refine (HS.out _).mono ?_
      rintro e w1 ⟨rfl, rfl⟩
      go_wp2_with fail
      go_ret
      exact ⟨rfl, rfl⟩
    · have t47 : ((t[k].toNat : Int) == 47) = false := beq_no _ 47 _ rfl hc
      clear hc h h1
      go_enter Tryd.func11, Tryd.ntmps11
      go_wp2_with fail
      refine (HT.out _).mono ?_
      rintro e w1 ⟨rfl, rfl⟩
      go_wp2_with fail
      go_ret
      exact ⟨rfl, rfl⟩
  · have d0 : decide ((0 : Int) < (k : Int)) = false := by simp; omega
    clear h
    go_enter Tryd.func11, Tryd.ntmps11
    go_wp2_with fail
    refine (HT.out _).mono ?_
    rintro e w1 ⟨rfl, rfl⟩
    go_wp2_with fail
    go_ret
    exact ⟨rfl, rfl⟩
end Go.Proofs.YtglffpjobjpmpaaDoor
