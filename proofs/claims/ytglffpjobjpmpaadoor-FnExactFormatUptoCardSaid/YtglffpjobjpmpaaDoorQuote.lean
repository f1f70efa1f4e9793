/-
  CONTRACT OF spec's Quote: the text in quotation marks, with a backslash ahead of each backslash and each quotation mark; for every text of at most 2 to the 40th bytes.
-/
import Derived.Test.YtglffpjobjpmpaaDoorByt
namespace Go.Proofs.YtglffpjobjpmpaaDoor
open Go.RowKit

/-- The text with a backslash ahead of each backslash and each quotation mark. -/
def esc : List UInt8 → List UInt8
  | [] => []
  | c :: r => if c = 92 ∨ c = 34 then 92 :: c :: esc r else c :: esc r
def quo (l : List UInt8) : List UInt8 := 34 :: esc l ++ [34]
theorem esc_len (l : List UInt8) : (esc l).length ≤ 2 * l.length := by
  induction l with
  | nil => simp [esc]
  | cons c r ih => simp only [esc]; split <;> simp <;> omega

set_option maxRecDepth 100000 in
theorem quote_c (s : ByteArray) (w : World) (hs : s.size ≤ 1099511627776) : Calls Tryd.prog 25 #[.string s] w (Makes (.string ⟨(quo (L s)).toArray⟩) w) := by
  go_enter Tryd.func25, Tryd.ntmps25
  go_wp2
  go_loopw [3, 4] (fun v i wr => ∃ (k : Nat) (acc : List UInt8), k ≤ s.size ∧ i = .int .i64 k ∧ acc ++ esc ((L s).drop k) = 34 :: esc (L s) ∧ acc.length ≤ 2 * k + 1 ∧ Own w.heap.size v acc wr ∧ Below w.heap.size w wr) (fun _ i _ => s.size - (intOf i).toNat)
  case atStart => exact ⟨0, [34], Nat.zero_le _, rfl, rfl, by simp, own_one w 34, (Below.refl _ _).alloc (Nat.le_refl _) _⟩
  case round =>
    obtain ⟨k, acc, hk, rfl, hno, hacc, hown, hbel⟩ := hrel
    have HN := Lib.hid hno
    clear hno
    by_cases hlt : k < s.size
    · have hd := L_drop s k hlt
      by_cases hsp : s[k] = 92 ∨ s[k] = 34
      · have hstep : acc ++ [92] ++ [s[k]] ++ esc ((L s).drop (k + 1)) = 34 :: esc (L s) := by rw [← HN.out, hd, esc, if_pos hsp]; simp
        have HS := Lib.hid hstep
        clear hstep hd
        by_cases c92 : s[k] = 92
        · have t92 : ((s[k].toNat : Int) == 92) = true := beq_yes _ 92 _ rfl c92
          clear c92 hsp
          go_wp2_with (first
            | (at_builtin; refine append_byte rfl (.tmp 22) (.tmp 23) rfl w.heap.size _ acc 92 rfl hown rfl (by omega) ?_; intro v1 w1 hown1 hb1 hz1)
            | (at_builtin; refine append_byte rfl (.tmp 25) (.tmp 29) rfl w.heap.size _ (acc ++ [92]) _ rfl hown1 rfl (by simp; omega) ?_; intro v2 w2 hown2 hb2 hz2))
          go_roundw
          case rel => exact ⟨k + 1, acc ++ [92] ++ [s[k]], by omega, by go_num, HS.out, by simp; omega, hown2, (hbel.trans hb1).trans hb2⟩
          case measure => simp [intOf]; omega
        · have t92 : ((s[k].toNat : Int) == 92) = false := beq_no _ 92 _ rfl c92
          have t34 : ((s[k].toNat : Int) == 34) = true := beq_yes _ 34 _ rfl (hsp.resolve_left c92)
          clear c92 hsp
          go_wp2_with (first
            | (at_builtin; refine append_byte rfl (.tmp 22) (.tmp 23) rfl w.heap.size _ acc 92 rfl hown rfl (by omega) ?_; intro v1 w1 hown1 hb1 hz1)
            | (at_builtin; refine append_byte rfl (.tmp 25) (.tmp 29) rfl w.heap.size _ (acc ++ [92]) _ rfl hown1 rfl (by simp; omega) ?_; intro v2 w2 hown2 hb2 hz2))
          go_roundw
          case rel => exact ⟨k + 1, acc ++ [92] ++ [s[k]], by omega, by go_num, HS.out, by simp; omega, hown2, (hbel.trans hb1).trans hb2⟩
          case measure => simp [intOf]; omega
      · have hstep : acc ++ [s[k]] ++ esc ((L s).drop (k + 1)) = 34 :: esc (L s) := by rw [← HN.out, hd, esc, if_neg hsp]; simp
        have HS := Lib.hid hstep
        have t92 : ((s[k].toNat : Int) == 92) = false := beq_no _ 92 _ rfl (fun h => hsp (.inl h))
        have t34 : ((s[k].toNat : Int) == 34) = false := beq_no _ 34 _ rfl (fun h => hsp (.inr h))
        clear hstep hd hsp
        go_wp2_with (at_builtin; refine append_byte rfl (.tmp 25) (.tmp 29) rfl w.heap.size _ acc _ rfl hown rfl (by omega) ?_; intro v2 w2 hown2 hb2 hz2)
        go_roundw
        case rel => exact ⟨k + 1, acc ++ [s[k]], by omega, by go_num, HS.out, by simp; omega, hown2, hbel.trans hb2⟩
        case measure => simp [intOf]; omega
    · have hend : acc = 34 :: esc (L s) := by
        have h := HN.out
        rw [L_drop_end s k hlt] at h
        simpa [esc] using h
      have HE := Lib.hid hend
      clear hend
      go_wp2_with (at_builtin; refine append_byte rfl (.tmp 31) (.tmp 32) rfl w.heap.size _ acc 34 rfl hown rfl (by omega) ?_; intro v2 w2 hown2 hb2 hz2; have hcv := own_string hown2)
      go_ret
      refine ⟨?_, hbel.trans hb2⟩
      rw [quo, ← HE.out]
      rfl
end Go.Proofs.YtglffpjobjpmpaaDoor
