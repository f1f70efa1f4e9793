/-
  CONTRACT OF mime's consumeValue: of a text that does not begin with a quotation mark the token and the rest; else what is in the quotation marks, without the backslashes that escape; for every text of at most 2 to the 40th bytes.
-/
import Derived.Test.YteohjnebbndcoaaDoorStr
import Derived.Test.YteohjnebbndcoaaDoorBld
import Derived.Deep.RegionWith
import Derived.IntWalk
import Derived.Deep.DrawnRows
namespace Go.Proofs.YteohjnebbndcoaaDoor
open Go.RowKit
attribute [local go_sem ↓] Go.wp_at_zero Go.wp_at_succ

/-- Does a tspecial stand at the head? -/
def nextSpc : List UInt8 → Bool
  | [] => false
  | d :: _ => spcB d
/-- What stands in quotation marks (behind the opening one), and the rest; 'lit': the byte that comes stands behind a backslash that escapes it. -/
def unq (acc : List UInt8) (lit : Bool) : List UInt8 → Option (List UInt8 × List UInt8)
  | [] => none
  | c :: r =>
    if lit then unq (acc ++ [c]) false r
    else if c = 34 then some (acc, r)
    else if c = 92 ∧ nextSpc r = true then unq acc true r
    else if c = 13 ∨ c = 10 then none
    else unq (acc ++ [c]) false r

theorem unq_nil (acc : List UInt8) (b : Bool) : unq acc b [] = none := rfl
theorem unq_quote (acc r : List UInt8) : unq acc false (34 :: r) = some (acc, r) := by rw [unq, if_neg (by decide), if_pos rfl]
theorem unq_esc (acc : List UInt8) (d : UInt8) (r : List UInt8) (h : spcB d = true) : unq acc false (92 :: d :: r) = unq (acc ++ [d]) false r := by
  rw [unq, if_neg (by decide), if_neg (by decide), if_pos ⟨rfl, h⟩, unq, if_pos rfl]
theorem unq_line (acc : List UInt8) (c : UInt8) (r : List UInt8) (h1 : c ≠ 34) (h2 : c ≠ 92) (h : c = 13 ∨ c = 10) : unq acc false (c :: r) = none := by
  rw [unq, if_neg (by decide), if_neg h1, if_neg (fun x => h2 x.1), if_pos h]
theorem unq_plain (acc : List UInt8) (c : UInt8) (r : List UInt8) (h1 : c ≠ 34) (h2 : ¬ (c = 92 ∧ nextSpc r = true)) (h3 : c ≠ 13) (h4 : c ≠ 10) : unq acc false (c :: r) = unq (acc ++ [c]) false r := by
  rw [unq, if_neg (by decide), if_neg h1, if_neg h2, if_neg (fun x => x.elim h3 h4)]

/-- What consumeValue returns of a text that begins with a quotation mark. -/
def quotedPair (s : ByteArray) : Option (List UInt8 × List UInt8) → Value
  | some (a, r) => .tuple #[.string ⟨a.toArray⟩, .string ⟨r.toArray⟩]
  | none => .tuple #[.string ⟨#[]⟩, .string s]

theorem of_drop (s : ByteArray) (k : Nat) : s.extract k s.size = ⟨((L s).drop k).toArray⟩ := L_inj ((L_from s k).trans (L_mk _).symm)

set_option maxRecDepth 100000 in
theorem consumeValue_quoted (s : ByteArray) (w : World) (hs : s.size ≤ 1099511627776) (h0 : 0 < s.size) (hq : s[0] = 34) :
    Calls Tryd.prog 40 #[.string s] w (Makes (quotedPair s (unq [] false ((L s).drop 1))) w) := by
  have hemp : s.toList.isEmpty = false := by
    rw [toList_L]
    have := L_length s
    cases h : L s with
    | nil => rw [h] at this; simp at this; omega
    | cons a r => rfl
  have hq' : ((s[0].toNat : Int) != 34) = false := by rw [hq]; rfl
  clear hq
  go_enter Tryd.func40, Tryd.ntmps40
  go_wp2
  go_loopw [5] (fun i wr => ∃ (k : Nat) (acc : List UInt8), 1 ≤ k ∧ k ≤ s.size ∧ i = .int .i64 k ∧ unq acc false ((L s).drop k) = unq [] false ((L s).drop 1) ∧ acc.length ≤ k ∧ Bld w.heap.size w.heap.size acc wr ∧ Below w.heap.size w wr) (fun i _ => s.size - (intOf i).toNat)
  case atStart => exact ⟨1, [], Nat.le_refl _, h0, rfl, rfl, by simp, bld_fresh w, (Below.refl _ _).alloc (Nat.le_refl _) _⟩
  case round =>
    obtain ⟨k, acc, hk1, hk, rfl, hno, hacc, hbld, hbel⟩ := hrel
    have HN := Lib.hid hno
    clear hno hemp hq'
    by_cases hlt : k < s.size
    · have hd := L_drop s k hlt
      have HD := Lib.hid hd
      clear hd
      by_cases c34 : s[k] = 34
      · have t34 : ((s[k].toNat : Int) == 34) = true := by rw [c34]; rfl
        have HC := Lib.hid c34
        clear c34
        go_wp2_with fail
        have hw1 : IntKind.i64.wrap ((k : Int) + 1) = (k : Int) + 1 := IntWalk.i64_in _ (by omega)
        have hi0 : (0 : Int) ≤ (k : Int) + 1 := by omega
        have hi1 : (k : Int) + 1 ≤ (s.size : Int) := by omega
        have hi2 : ((k : Int) + 1).toNat = k + 1 := by omega
        go_region_with (go_at_call 35; refine (string_c _ _ acc _ (by exact hbld)).mono ?_; rintro e w1 ⟨rfl, hb1⟩)
        go_wp2
        go_ret2
        refine ⟨?_, (hbel.drew).trans hb1⟩
        rw [← HN.out, HD.out, HC.out, unq_quote]
        simp only [quotedPair, ← of_drop]
        rfl
      · have t34 : ((s[k].toNat : Int) == 34) = false := beq_no _ 34 _ rfl c34
        have hw1 : IntKind.i64.wrap ((k : Int) + 1) = (k : Int) + 1 := IntWalk.i64_in _ (by omega)
        by_cases hesc : s[k] = 92 ∧ nextSpc ((L s).drop (k + 1)) = true
        · obtain ⟨c92, hnx⟩ := hesc
          have hlt1 : k + 1 < s.size := by
            by_cases h : k + 1 < s.size
            · exact h
            · rw [L_drop_end s _ h] at hnx; cases hnx
          have hd1 := L_drop s (k + 1) hlt1
          rw [hd1] at hnx
          have hsp : spcB s[k + 1] = true := hnx
          have t92 : ((s[k].toNat : Int) == 92) = true := by rw [c92]; rfl
          have hstep : unq [] false ((L s).drop 1) = unq (acc ++ [s[k + 1]]) false ((L s).drop (k + 2)) := by rw [← HN.out, HD.out, c92, hd1, unq_esc _ _ _ hsp]
          have HS := Lib.hid hstep
          have hi1 : (k : Int) + 1 < (s.size : Int) := by omega
          clear hstep hnx hd1 c92
          go_wp2_with (first
            | (go_at_call 66; refine (isTSpecial_c _ _).mono ?_; rintro e w' ⟨rfl, rfl⟩)
            | (go_at_call 45; refine (writeByte_c _ _ acc _ _ hbld (by omega)).mono ?_; rintro e w1 ⟨rfl, hbld1, hb1⟩))
          go_roundw
          case rel => exact ⟨k + 2, acc ++ [s[k + 1]], by omega, by omega, by go_num, HS.out.symm, by simp; omega, hbld1, hbel.trans hb1⟩
          case measure => simp [intOf]; omega
        · by_cases hcr : s[k] = 13 ∨ s[k] = 10
          · have hstep : unq [] false ((L s).drop 1) = none := by
              rw [← HN.out, HD.out, unq_line _ _ _ c34 (by rcases hcr with h | h <;> rw [h] <;> decide) hcr]
            have HS := Lib.hid hstep
            have t92 : ((s[k].toNat : Int) == 92) = false := beq_no _ 92 _ rfl (by rcases hcr with h | h <;> rw [h] <;> decide)
            clear hstep
            have hnx : True := trivial
            clear hesc
            rcases hcr with h | h
            · have t13 : ((s[k].toNat : Int) == 13) = true := beq_yes _ 13 _ rfl h
              clear h
              go_wp2_with fail
              go_ret2
              exact ⟨by rw [HS.out]; rfl, hbel⟩
            · have t13 : ((s[k].toNat : Int) == 13) = false := beq_no _ 13 _ rfl (by rw [h]; decide)
              have t10 : ((s[k].toNat : Int) == 10) = true := beq_yes _ 10 _ rfl h
              clear h
              go_wp2_with fail
              go_ret2
              exact ⟨by rw [HS.out]; rfl, hbel⟩
          · have h13 : ¬ s[k] = 13 := fun h => hcr (.inl h)
            have h10 : ¬ s[k] = 10 := fun h => hcr (.inr h)
            have hstep : unq [] false ((L s).drop 1) = unq (acc ++ [s[k]]) false ((L s).drop (k + 1)) := by rw [← HN.out, HD.out, unq_plain _ _ _ c34 hesc h13 h10]
            have HS := Lib.hid hstep
            have t13 : ((s[k].toNat : Int) == 13) = false := beq_no _ 13 _ rfl h13
            have t10 : ((s[k].toNat : Int) == 10) = false := beq_no _ 10 _ rfl h10
            clear hstep hcr h13 h10
            by_cases c92 : s[k] = 92
            · have t92 : ((s[k].toNat : Int) == 92) = true := beq_yes _ 92 _ rfl c92
              by_cases hlt1 : k + 1 < s.size
              · have hi1 : (k : Int) + 1 < (s.size : Int) := by omega
                have hsp : spcB s[k + 1] = false := by
                  cases h : spcB s[k + 1]
                  · rfl
                  · exact absurd ⟨c92, by rw [L_drop s _ hlt1]; exact h⟩ hesc
                clear c92 hesc
                go_wp2_with (first
                  | (go_at_call 66; refine (isTSpecial_c _ _).mono ?_; rintro e w' ⟨rfl, rfl⟩)
                  | (go_at_call 45; refine (writeByte_c _ _ acc _ _ hbld (by omega)).mono ?_; rintro e w1 ⟨rfl, hbld1, hb1⟩))
                go_roundw
                case rel => exact ⟨k + 1, acc ++ [s[k]], by omega, by omega, by go_num, HS.out.symm, by simp; omega, hbld1, hbel.trans hb1⟩
                case measure => simp [intOf]; omega
              · have hi1 : decide ((k : Int) + 1 < (s.size : Int)) = false := by simp; omega
                clear c92 hesc
                go_wp2_with (first
                  | (go_at_call 45; refine (writeByte_c _ _ acc _ _ hbld (by omega)).mono ?_; rintro e w1 ⟨rfl, hbld1, hb1⟩))
                go_roundw
                case rel => exact ⟨k + 1, acc ++ [s[k]], by omega, by omega, by go_num, HS.out.symm, by simp; omega, hbld1, hbel.trans hb1⟩
                case measure => simp [intOf]; omega
            · have t92 : ((s[k].toNat : Int) == 92) = false := beq_no _ 92 _ rfl c92
              clear c92 hesc
              go_wp2_with (first
                | (go_at_call 45; refine (writeByte_c _ _ acc _ _ hbld (by omega)).mono ?_; rintro e w1 ⟨rfl, hbld1, hb1⟩))
              go_roundw
              case rel => exact ⟨k + 1, acc ++ [s[k]], by omega, by omega, by go_num, HS.out.symm, by simp; omega, hbld1, hbel.trans hb1⟩
              case measure => simp [intOf]; omega
    · go_wp2
      go_ret2
      refine ⟨?_, hbel⟩
      rw [← HN.out, L_drop_end s k hlt, unq_nil]
      rfl
end Go.Proofs.YteohjnebbndcoaaDoor
