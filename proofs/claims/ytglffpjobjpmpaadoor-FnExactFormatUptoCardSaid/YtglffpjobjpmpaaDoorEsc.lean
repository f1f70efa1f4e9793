/-
  CONTRACT OF spec's Escape: for texts of at most 2 to the 40th bytes; and that the percent decoding gives the text back.
-/
import Derived.Test.YtglffpjobjpmpaaDoorCap
import Derived.Test.YtglffpjobjpmpaaDoorTok
import Derived.Test.YtglffpjobjpmpaaDoorPct
import Derived.Deep.RegionLaw
import Derived.Deep.DrawnRows
import Derived.IntWalk
namespace Go.Proofs.YtglffpjobjpmpaaDoor
open Go.RowKit
attribute [local go_sem ↓] Go.wp_at_zero Go.wp_at_succ

/-- An attribute-char of RFC 2231. -/
def attrB (c : UInt8) : Bool := tokB c && c != 42 && c != 39 && c != 37
def escW (c : UInt8) : List UInt8 := if attrB c = true then [c] else [37, hexCap (c.toNat / 16), hexCap (c.toNat % 16)]
def escA (l : List UInt8) : List UInt8 := l.flatMap escW
theorem escW_len (c : UInt8) : (escW c).length ≤ 3 := by unfold escW; split <;> simp
theorem escA_len (l : List UInt8) : (escA l).length ≤ 3 * l.length := by
  unfold escA
  induction l with
  | nil => simp
  | cons x r ih => have := escW_len x; rw [List.flatMap_cons, List.length_append, List.length_cons]; omega
theorem escA_cons (c : UInt8) (r : List UInt8) : escA (c :: r) = escW c ++ escA r := rfl
theorem pct_escA (l : List UInt8) : pct (escA l) = some l := by
  induction l with
  | nil => rfl
  | cons c r ih =>
    rw [escA_cons]
    unfold escW
    split
    · next h =>
      have hc : c ≠ 37 := by
        intro e
        subst e
        revert h
        decide +kernel
      rw [List.singleton_append, pct_plain _ _ hc, ih]
      rfl
    · obtain ⟨h1, h2, h3⟩ := cap_hex ⟨c.toNat, c.toNat_lt⟩
      have := pct_hex _ _ (escA r) h1 h2
      rw [ih, h3] at this
      simpa using this

set_option maxHeartbeats 2000000 in
set_option maxRecDepth 100000 in
theorem escape_c (s : ByteArray) (w : World) (hs : s.size ≤ 1099511627776) : Calls Tryd.prog 9 #[.string s] w (Makes (.string ⟨(escA (L s)).toArray⟩) w) := by
  go_enter Tryd.func9, Tryd.ntmps9
  go_wp2
  go_loopw [3, 4] (fun v i wr => ∃ (k : Nat) (acc : List UInt8), k ≤ s.size ∧ i = .int .i64 k ∧ acc ++ escA ((L s).drop k) = escA (L s) ∧ acc.length ≤ 3 * k ∧ Own w.heap.size v acc wr ∧ Below w.heap.size w wr) (fun _ i _ => s.size - (intOf i).toNat)
  case atStart => exact ⟨0, [], Nat.zero_le _, rfl, rfl, by simp, Own.nil w, Below.refl _ _⟩
  case round =>
    obtain ⟨k, acc, hk, rfl, hno, hal, hown, hbel⟩ := hrel
    have HN := Lib.hid hno
    clear hno
    by_cases hlt : k < s.size
    · have hd := L_drop s k hlt
      cases ha : attrB s[k]
      · have hstep : acc ++ [37, hexCap (s[k].toNat / 16), hexCap (s[k].toNat % 16)] ++ escA ((L s).drop (k + 1)) = escA (L s) := by
          rw [← HN.out, hd, escA_cons, escW, if_neg (by simp [ha])]; simp
        have HS := Lib.hid hstep
        have HA := Lib.hid ha
        clear hstep hd
        obtain ⟨hi, hhi, hhi16⟩ : ∃ hi, hi = s[k].toNat / 16 ∧ hi < 16 := ⟨_, rfl, by have := s[k].toNat_lt; omega⟩
        obtain ⟨lo, hlo, hlo16⟩ : ∃ lo, lo = s[k].toNat % 16 ∧ lo < 16 := ⟨_, rfl, by omega⟩
        have q1 : IntKind.u8.wrap ((s[k].toNat : Int) / 16) = (hi : Int) := by rw [IntWalk.u8_in _ (by omega)]; omega
        have q2 : ((s[k].toNat : Int)).tmod 16 = (lo : Int) := by rw [Int.tmod_eq_emod_of_nonneg (by omega)]; omega
        have q3 : (hi : Int) < 16 := by omega
        have q4 : (lo : Int) < 16 := by omega
        have q5 := cap_at hi hhi16
        have q6 := cap_at lo hlo16
        rw [← hhi, ← hlo] at HS
        clear hhi hlo
        have hcase : tokB s[k] = false ∨ (tokB s[k] = true ∧ ((s[k].toNat : Int) != 42) = false) ∨ (tokB s[k] = true ∧ ((s[k].toNat : Int) != 42) = true ∧ ((s[k].toNat : Int) != 39) = false) ∨
            (tokB s[k] = true ∧ ((s[k].toNat : Int) != 42) = true ∧ ((s[k].toNat : Int) != 39) = true ∧ ((s[k].toNat : Int) != 37) = false) := by
          unfold attrB at ha
          by_cases c42 : s[k] = 42
          · have := bne_yes s[k] 42 42 rfl c42
            cases hT : tokB s[k] <;> simp [this]
          · have e42 := bne_no s[k] 42 42 rfl c42
            by_cases c39 : s[k] = 39
            · have := bne_yes s[k] 39 39 rfl c39
              cases hT : tokB s[k] <;> simp [this, e42]
            · have e39 := bne_no s[k] 39 39 rfl c39
              by_cases c37 : s[k] = 37
              · have := bne_yes s[k] 37 37 rfl c37
                cases hT : tokB s[k] <;> simp [this, e42, e39]
              · left
                simpa [c42, c39, c37] using ha
        clear ha HA
        rcases hcase with hT | ⟨hT, t42⟩ | ⟨hT, t42, t39⟩ | ⟨hT, t42, t39, t37⟩
        all_goals
          have HT := Lib.hid hT
          clear hT
          go_wp2_with (go_at_call 18; refine (tokenByte_c _ _).mono ?_; rintro e w1 ⟨rfl, rfl⟩; rw [HT.out])
          go_region_law (refine step_append_bytes (w := _) rfl (.tmp 33) (.tmp 40) rfl w.heap.size u3 acc [37, hexCap hi, hexCap lo] _ (three_cells _ _ _) 3 rfl (by rfl) hown.drew (by rfl) (by simp; omega) ?_; intro v1 w1 hown1 hb1 hz1)
          all_goals
            go_wp2
            go_roundw
            case rel => exact ⟨k + 1, _, by omega, by go_num, HS.out, by simp; omega, hown1, hbel.drew.trans hb1⟩
            case measure => simp [intOf]; omega
      · have hstep : acc ++ [s[k]] ++ escA ((L s).drop (k + 1)) = escA (L s) := by
          rw [← HN.out, hd, escA_cons, escW, if_pos ha]; simp
        have HS := Lib.hid hstep
        unfold attrB at ha
        simp only [Bool.and_eq_true] at ha
        obtain ⟨⟨⟨hT, h42⟩, h39⟩, h37⟩ := ha
        have t42 : ((s[k].toNat : Int) != 42) = true := bne_no _ 42 _ rfl (by simpa using h42)
        have t39 : ((s[k].toNat : Int) != 39) = true := bne_no _ 39 _ rfl (by simpa using h39)
        have t37 : ((s[k].toNat : Int) != 37) = true := bne_no _ 37 _ rfl (by simpa using h37)
        have HT := Lib.hid hT
        clear hstep hd hT h42 h39 h37
        go_wp2_with (first
          | (go_at_call 18; refine (tokenByte_c _ _).mono ?_; rintro e w1 ⟨rfl, rfl⟩; rw [HT.out])
          | (at_builtin; refine append_byte rfl (.tmp 29) (.tmp 31) rfl w.heap.size _ acc _ rfl hown rfl (by omega) ?_; intro v2 w2 hown2 hb2 hz2))
        go_roundw
        case rel => exact ⟨k + 1, acc ++ [s[k]], by omega, by go_num, HS.out, by simp; omega, hown2, hbel.trans hb2⟩
        case measure => simp [intOf]; omega
    · have hend : acc = escA (L s) := by
        have h := HN.out
        rw [L_drop_end s k hlt] at h
        simpa [escA] using h
      have HE := Lib.hid hend
      clear hend
      have hcv := own_string hown
      go_wp2_with fail
      go_ret
      exact ⟨by rw [← HE.out]; rfl, hbel⟩
end Go.Proofs.YtglffpjobjpmpaaDoor
