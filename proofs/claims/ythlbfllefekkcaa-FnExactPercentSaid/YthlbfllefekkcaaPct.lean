/-
  CONTRACT OF spec's Percent: each percent sign with two digits is a byte, another percent sign is refused; for every text of at most 2 to the 40th bytes.
-/
import Derived.Test.YthlbfllefekkcaaHex
import Derived.Test.YthlbfllefekkcaaByt
import Derived.Deep.RegionLaw
import Derived.Deep.DrawnRows
import Derived.IntWalk
namespace Go.Proofs.Ythlbfllefekkcaa
open Go.RowKit
attribute [local go_sem ↓] Go.wp_at_zero Go.wp_at_succ

def hex2 : List UInt8 → Bool
  | a :: b :: _ => isHex a && isHex b
  | _ => false
def hexAt : List UInt8 → UInt8
  | a :: b :: _ => hexByte a b
  | _ => 0
/-- The percent decoding; the number says how many bytes are passed over. -/
def pctS : Nat → List UInt8 → Option (List UInt8)
  | _, [] => some []
  | k + 1, _ :: r => pctS k r
  | 0, c :: r => if c = 37 then (if hex2 r = true then (pctS 2 r).map (hexAt r :: ·) else none) else (pctS 0 r).map (c :: ·)
def pct (l : List UInt8) : Option (List UInt8) := pctS 0 l

theorem pct_nil : pct [] = some [] := rfl
theorem pct_plain (c : UInt8) (r : List UInt8) (h : c ≠ 37) : pct (c :: r) = (pct r).map (c :: ·) := by
  unfold pct; rw [pctS, if_neg h]
theorem pct_bad (r : List UInt8) (h : hex2 r = false) : pct (37 :: r) = none := by
  unfold pct; rw [pctS, if_pos rfl, if_neg (by simp [h])]
theorem pct_hex (a b : UInt8) (r : List UInt8) (ha : isHex a = true) (hb : isHex b = true) : pct (37 :: a :: b :: r) = (pct r).map (hexByte a b :: ·) := by
  unfold pct; rw [pctS, if_pos rfl, if_pos (by simp [hex2, ha, hb])]; rfl
theorem map_map_snoc (acc : List UInt8) (c : UInt8) (o : Option (List UInt8)) : (o.map (c :: ·)).map (acc ++ ·) = o.map ((acc ++ [c]) ++ ·) := by
  cases o <;> simp

/-- What Percent returns. -/
def pctPair : Option (List UInt8) → Value
  | some l => .tuple #[.string ⟨l.toArray⟩, .bool true]
  | none => .tuple #[.string ⟨#[]⟩, .bool false]

set_option maxHeartbeats 1000000 in
set_option maxRecDepth 100000 in
theorem specPercent_c (s : ByteArray) (w : World) (hs : s.size ≤ 1099511627776) : Calls Try.prog 21 #[.string s] w (Makes (pctPair (pct (L s))) w) := by
  go_enter Try.func21, Try.ntmps21
  go_wp2
  go_loopw [4, 5] (fun v i wr => ∃ (k : Nat) (acc : List UInt8), k ≤ s.size ∧ i = .int .i64 k ∧ (pct ((L s).drop k)).map (acc ++ ·) = pct (L s) ∧ acc.length ≤ k ∧ Own w.heap.size v acc wr ∧ Below w.heap.size w wr) (fun _ i _ => s.size - (intOf i).toNat)
  case atStart => exact ⟨0, [], Nat.zero_le _, rfl, by simp, by simp, Own.nil w, Below.refl _ _⟩
  case round =>
    obtain ⟨k, acc, hk, rfl, hno, hacc, hown, hbel⟩ := hrel
    have HN := Lib.hid hno
    clear hno
    by_cases hlt : k < s.size
    · have hd := L_drop s k hlt
      by_cases c37 : s[k] = 37
      · have t37 : ((s[k].toNat : Int) != 37) = false := bne_yes _ 37 _ rfl c37
        by_cases hlt2 : k + 2 < s.size
        · have hd1 := L_drop s (k + 1) (by omega)
          have hd2 := L_drop s (k + 2) hlt2
          have g1 : decide ((s.size : Int) ≤ (k : Int) + 2) = false := by simp; omega
          have h1 := hexI_le s[k + 1]
          have h2 := hexI_le s[k + 2]
          cases ha : isHex s[k + 1]
          · have hstep : pct (L s) = none := by rw [← HN.out, hd, c37, hd1, hd2, pct_bad _ (by simp [hex2, ha])]; rfl
            have HS := Lib.hid hstep
            have i1 : decide (hexI s[k + 1] < 0) = true := by have := of_decide_eq_false ha; simp; omega
            clear hstep hd hd1 hd2 c37 ha
            go_wp2_with (go_at_call 32; refine (hex_c _ _).mono ?_; rintro e w' ⟨rfl, rfl⟩)
            go_ret2
            exact ⟨by rw [HS.out]; rfl, hbel⟩
          · have i1 : decide (hexI s[k + 1] < 0) = false := by have := of_decide_eq_true ha; simp; omega
            cases hb : isHex s[k + 2]
            · have hstep : pct (L s) = none := by rw [← HN.out, hd, c37, hd1, hd2, pct_bad _ (by simp [hex2, hb])]; rfl
              have HS := Lib.hid hstep
              have i2 : decide (hexI s[k + 2] < 0) = true := by have := of_decide_eq_false hb; simp; omega
              clear hstep hd hd1 hd2 c37 ha hb
              go_wp2_with (go_at_call 32; refine (hex_c _ _).mono ?_; rintro e w' ⟨rfl, rfl⟩)
              go_ret2
              exact ⟨by rw [HS.out]; rfl, hbel⟩
            · have i2 : decide (hexI s[k + 2] < 0) = false := by have := of_decide_eq_true hb; simp; omega
              have hstep : (pct ((L s).drop (k + 3))).map ((acc ++ [hexByte s[k + 1] s[k + 2]]) ++ ·) = pct (L s) := by rw [← HN.out, hd, c37, hd1, hd2, pct_hex _ _ _ ha hb, map_map_snoc]
              have HS := Lib.hid hstep
              have hby := hexByte_int _ _ ha hb
              have p1 : 0 ≤ hexI s[k + 1] := of_decide_eq_true ha
              have p2 : 0 ≤ hexI s[k + 2] := of_decide_eq_true hb
              generalize hexByte s[k + 1] s[k + 2] = c at hby HS
              have hc8 := c.toNat_lt
              clear hstep hd hd1 hd2 c37 ha hb
              go_wp2_with (go_at_call 32; refine (hex_c _ _).mono ?_; rintro e w' ⟨rfl, rfl⟩)
              have hw1 : IntKind.i64.wrap ((k : Int) + 1) = (k : Int) + 1 := IntWalk.i64_in _ (by omega)
              have hw2 : IntKind.i64.wrap ((k : Int) + 2) = (k : Int) + 2 := IntWalk.i64_in _ (by omega)
              have hw3 : IntKind.i64.wrap (hexI s[k + 1] * 16) = hexI s[k + 1] * 16 := IntWalk.i64_in _ (by omega)
              have hw4 : IntKind.i64.wrap (c.toNat : Int) = (c.toNat : Int) := IntWalk.i64_in _ (by omega)
              have hw8 := wrap_byte c
              have ht1 : ((k : Int) + 1).toNat = k + 1 := by omega
              have ht2 : ((k : Int) + 2).toNat = k + 2 := by omega
              have hp1 : (0 : Int) ≤ (k : Int) + 1 := by omega
              have hp2 : (0 : Int) ≤ (k : Int) + 2 := by omega
              have hq1 : (k : Int) + 1 < (s.size : Int) := by omega
              have hq2 : (k : Int) + 2 < (s.size : Int) := by omega
              have hm1 : k + 1 < s.size := by omega
              go_region_law (first
                | (refine step_append_byte (w := wr.drew) rfl (.tmp 43) (.tmp 57) rfl w.heap.size u4 acc c (by rfl) hown.drew (by rfl) (by omega) ?_; intro v1 w1 hown1 hb1 hz1)
                | (go_simp; go_at_call 32; refine (hex_c _ _).mono ?_; rintro e w' ⟨rfl, rfl⟩))
              all_goals
                go_wp2
                go_roundw
                case rel => exact ⟨k + 3, acc ++ [c], by omega, by go_num, HS.out, by simp; omega, hown1, hbel.drew.trans hb1⟩
                case measure => simp [intOf]; omega
        · have hstep : pct (L s) = none := by
            rw [← HN.out, hd, c37, pct_bad]
            · rfl
            · by_cases h1 : k + 1 < s.size
              · rw [L_drop s _ h1, L_drop_end s _ (by omega)]; rfl
              · rw [L_drop_end s _ (by omega)]; rfl
          have HS := Lib.hid hstep
          have g1 : decide ((s.size : Int) ≤ (k : Int) + 2) = true := by simp; omega
          clear hstep hd c37
          go_wp2_with fail
          go_ret2
          exact ⟨by rw [HS.out]; rfl, hbel⟩
      · have t37 : ((s[k].toNat : Int) != 37) = true := bne_no _ 37 _ rfl c37
        have hstep : (pct ((L s).drop (k + 1))).map ((acc ++ [s[k]]) ++ ·) = pct (L s) := by rw [← HN.out, hd, pct_plain _ _ c37, map_map_snoc]
        have HS := Lib.hid hstep
        clear hstep hd c37
        go_wp2_with (at_builtin; refine append_byte rfl (.tmp 16) (.tmp 20) rfl w.heap.size _ acc _ rfl hown rfl (by omega) ?_; intro v1 w1 hown1 hb1 hz1)
        go_roundw
        case rel => exact ⟨k + 1, acc ++ [s[k]], by omega, by go_num, HS.out, by simp; omega, hown1, hbel.trans hb1⟩
        case measure => simp [intOf]; omega
    · have hend : pct (L s) = some acc := by
        have h := HN.out
        rw [L_drop_end s k hlt, pct_nil] at h
        simpa using h.symm
      have HE := Lib.hid hend
      clear hend
      have hcv := own_string hown
      go_wp2_with fail
      go_ret2
      refine ⟨?_, hbel⟩
      rw [HE.out]
      rfl
end Go.Proofs.Ythlbfllefekkcaa
