/-
  SLICES OF SIGNS (a byte and two marks each): what the argument looks like in memory; spec's Plain, Bytes and QText; for at most 2 to the 31st signs.
-/
import Derived.Test.YthlbfllefekkcaaDoorByt
import Derived.Deep.RegionLaw
import Derived.Deep.DrawnRows
import Derived.IntWalk
namespace Go.Proofs.YthlbfllefekkcaaDoor
open Go.RowKit
attribute [local go_sem ↓] Go.wp_at_zero Go.wp_at_succ

/-- A sign: the byte, 'escape', 'small'. -/
structure Sg where
  b : UInt8
  esc : Bool
  sm : Bool

/-- v is a slice that holds the signs l. -/
def Signs (v : Value) (l : List Sg) (w : World) : Prop :=
  ∃ p c, v = .slice p l.length c ∧ l.length ≤ c ∧ c ≤ maxLen ∧ (l = [] ∨ ∃ g o, p = some ⟨g, o, none⟩ ∧ g < w.heap.size ∧
    ∀ i x, l[i]? = some x → w.cell? ⟨g, o + i * 3, none⟩ = some (.int .u8 x.b.toNat) ∧ w.cell? ⟨g, o + i * 3 + 1, none⟩ = some (.bool x.esc) ∧ w.cell? ⟨g, o + i * 3 + 2, none⟩ = some (.bool x.sm))
theorem Signs.below {v : Value} {l : List Sg} {w w' : World} (h : Signs v l w) (hb : Below w.heap.size w w') : Signs v l w' := by
  obtain ⟨p, c, hv, h1, h2, h3⟩ := h
  refine ⟨p, c, hv, h1, h2, ?_⟩
  rcases h3 with h3 | ⟨g, o, hp, hg, hc⟩
  · exact .inl h3
  · refine .inr ⟨g, o, hp, Nat.lt_of_lt_of_le hg hb.size, fun i x hi => ?_⟩
    have := hc i x hi
    refine ⟨?_, ?_, ?_⟩
    · rw [hb.cell (p := ⟨g, _, none⟩) hg]; exact this.1
    · rw [hb.cell (p := ⟨g, _, none⟩) hg]; exact this.2.1
    · rw [hb.cell (p := ⟨g, _, none⟩) hg]; exact this.2.2

/-- A byte that stands for itself in the Q encoding. -/
def plainB (b : UInt8) : Bool := decide (32 < (b.toNat : Int)) && decide ((b.toNat : Int) < 127) && (b != 61) && (b != 63) && (b != 95)

set_option maxRecDepth 100000 in
theorem plain_c (b : UInt8) (w : World) : Calls Tryd.prog 9 #[.int .u8 b.toNat] w (Pure (.bool (plainB b)) w) := by
  have hb := b.toNat_lt
  have hE := Lib.hid (show plainB b = (decide (32 < (b.toNat : Int)) && decide ((b.toNat : Int) < 127) && ((b.toNat : Int) != 61) && ((b.toNat : Int) != 63) && ((b.toNat : Int) != 95)) by
    unfold plainB
    simp only [bne, ← byte_eq b 61, ← byte_eq b 63, ← byte_eq b 95]
    rfl)
  go_enter Tryd.func9, Tryd.ntmps9
  go_wp2
  all_goals
    go_ret
    refine ⟨ret_bool ?_, rfl⟩
    rw [hE.out]
    simp_all <;> (intros; omega)

theorem take_snoc (l : List Sg) (k : Nat) (x : Sg) (h : l[k]? = some x) : (l.take (k + 1)).map (·.b) = (l.take k).map (·.b) ++ [x.b] := by
  rw [List.take_add_one, h]; simp

set_option maxRecDepth 100000 in
theorem bytes_c (v : Value) (l : List Sg) (w : World) (hv : Signs v l w) (hl : l.length ≤ 2147483648) : Calls Tryd.prog 7 #[v] w (Makes (.string ⟨(l.map (·.b)).toArray⟩) w) := by
  obtain ⟨p, c, rfl, hc1, hc2, hcells⟩ := hv
  go_enter Tryd.func7, Tryd.ntmps7
  go_wp2
  go_loopw [3, 8] (fun v i wr => ∃ (k : Nat), k ≤ l.length ∧ i = .int .i64 k ∧ Own w.heap.size v ((l.take k).map (·.b)) wr ∧ Below w.heap.size w wr) (fun _ i _ => l.length - (intOf i).toNat)
  case atStart => exact ⟨0, Nat.zero_le _, rfl, Own.nil w, Below.refl _ _⟩
  case round =>
    obtain ⟨k, hk, rfl, hown, hbel⟩ := hrel
    by_cases hlt : k < l.length
    · obtain ⟨x, hx⟩ : ∃ x, l[k]? = some x := ⟨l[k], List.getElem?_eq_getElem hlt⟩
      rcases hcells with rfl | ⟨g, o, rfl, hg, hcells⟩
      · simp at hlt
      obtain ⟨h0, h1, h2⟩ := hcells k x hx
      have a0 := (hbel.cell (p := ⟨g, o + k * 3, none⟩) hg).trans h0
      have a1 := (hbel.cell (p := ⟨g, o + k * 3 + 1, none⟩) hg).trans h1
      have a2 := (hbel.cell (p := ⟨g, o + k * 3 + 2, none⟩) hg).trans h2
      have HX := Lib.hid (take_snoc l k x hx)
      have hlen : ((l.take k).map (·.b)).length = k := by simp; omega
      obtain ⟨acc, hacc⟩ : ∃ acc, acc = (l.take k).map (·.b) := ⟨_, rfl⟩
      rw [← hacc] at hown hlen
      have HA := Lib.hid hacc
      clear h0 h1 h2 hcells hx hacc
      go_wp2_with (at_builtin; refine append_byte (w := wr.alloc _) rfl (.tmp 12) (.tmp 15) rfl w.heap.size _ acc _ rfl (hown.alloc _) (by simp; rfl) (by omega) ?_; intro v2 w2 hown2 hb2 hz2)
      go_roundw
      case rel => exact ⟨k + 1, by omega, by go_num, by rw [HX.out, ← HA.out]; exact hown2, (hbel.alloc hbel.size _).trans hb2⟩
      case measure => simp [intOf]; omega
    · have hkl : k = l.length := by omega
      have HE := Lib.hid (show (l.take k).map (·.b) = l.map (·.b) by rw [hkl, List.take_length])
      have hcv := own_string hown
      go_wp2_with fail
      go_ret
      exact ⟨by rw [← HE.out]; rfl, hbel⟩

/-- The hexadecimal digit of a number below 16. -/
def hexCap (n : Nat) : UInt8 := if n < 10 then UInt8.ofNat (48 + n) else UInt8.ofNat (55 + n)
def hexLow (n : Nat) : UInt8 := if n < 10 then UInt8.ofNat (48 + n) else UInt8.ofNat (87 + n)
theorem cap_all : ∀ i : Fin 16, (⟨#[48, 49, 50, 51, 52, 53, 54, 55, 56, 57, 65, 66, 67, 68, 69, 70]⟩ : ByteArray)[i.val]'(i.isLt) = hexCap i.val := by decide
theorem low_all : ∀ i : Fin 16, (⟨#[48, 49, 50, 51, 52, 53, 54, 55, 56, 57, 97, 98, 99, 100, 101, 102]⟩ : ByteArray)[i.val]'(i.isLt) = hexLow i.val := by decide
theorem cap_at (n : Nat) (h : n < 16) (hn) : ((⟨#[48, 49, 50, 51, 52, 53, 54, 55, 56, 57, 65, 66, 67, 68, 69, 70]⟩ : ByteArray)[n]'hn).toNat = (hexCap n).toNat := by rw [cap_all ⟨n, h⟩]
theorem low_at (n : Nat) (h : n < 16) (hn) : ((⟨#[48, 49, 50, 51, 52, 53, 54, 55, 56, 57, 97, 98, 99, 100, 101, 102]⟩ : ByteArray)[n]'hn).toNat = (hexLow n).toNat := by rw [low_all ⟨n, h⟩]
theorem three_cells (a b c : UInt8) : (#[Value.int .u8 (a.toNat : Int), Value.int .u8 (b.toNat : Int), Value.int .u8 (c.toNat : Int)] : Array Value).toList = Lib.byteCells [a, b, c] := rfl
/-- A sign as it is written. -/
def written (x : Sg) : List UInt8 :=
  if x.esc = false ∧ plainB x.b = true then [x.b]
  else if x.esc = false ∧ x.b = 32 then [95]
  else if x.sm = true then [61, hexLow (x.b.toNat / 16), hexLow (x.b.toNat % 16)]
  else [61, hexCap (x.b.toNat / 16), hexCap (x.b.toNat % 16)]
def qtext (l : List Sg) : List UInt8 := l.flatMap written
theorem written_len (x : Sg) : (written x).length ≤ 3 := by unfold written; split <;> (try split) <;> (try split) <;> simp
theorem qtext_take (l : List Sg) (k : Nat) (x : Sg) (h : l[k]? = some x) : qtext (l.take (k + 1)) = qtext (l.take k) ++ written x := by
  unfold qtext; rw [List.take_add_one, h]; simp
theorem qtext_len (l : List Sg) : (qtext l).length ≤ 3 * l.length := by
  unfold qtext
  induction l with
  | nil => simp
  | cons x r ih => have := written_len x; rw [List.flatMap_cons, List.length_append, List.length_cons]; omega

set_option maxHeartbeats 2000000 in
set_option maxRecDepth 100000 in
theorem qtext_c (v : Value) (l : List Sg) (w : World) (hv : Signs v l w) (hl : l.length ≤ 2147483648) : Calls Tryd.prog 6 #[v] w (Makes (.string ⟨(qtext l).toArray⟩) w) := by
  obtain ⟨p, c, rfl, hc1, hc2, hcells⟩ := hv
  go_enter Tryd.func6, Tryd.ntmps6
  go_wp2
  go_loopw [3, 8] (fun v i wr => ∃ (k : Nat) (acc : List UInt8), k ≤ l.length ∧ i = .int .i64 k ∧ acc = qtext (l.take k) ∧ acc.length ≤ 3 * k ∧ Own w.heap.size v acc wr ∧ Below w.heap.size w wr) (fun _ i _ => l.length - (intOf i).toNat)
  case atStart => exact ⟨0, [], Nat.zero_le _, rfl, rfl, by simp, Own.nil w, Below.refl _ _⟩
  case round =>
    obtain ⟨k, acc, hk, rfl, hacc, hal, hown, hbel⟩ := hrel
    have HA := Lib.hid hacc
    clear hacc
    by_cases hlt : k < l.length
    · obtain ⟨x, hx⟩ : ∃ x, l[k]? = some x := ⟨l[k], List.getElem?_eq_getElem hlt⟩
      rcases hcells with rfl | ⟨g, o, rfl, hg, hcells⟩
      · simp at hlt
      obtain ⟨h0, h1, h2⟩ := hcells k x hx
      have a0 := (hbel.cell (p := ⟨g, o + k * 3, none⟩) hg).trans h0
      have a1 := (hbel.cell (p := ⟨g, o + k * 3 + 1, none⟩) hg).trans h1
      have a2 := (hbel.cell (p := ⟨g, o + k * 3 + 2, none⟩) hg).trans h2
      have HX := Lib.hid (qtext_take l k x hx)
      clear h0 h1 h2 hcells hx
      obtain ⟨b, e, m⟩ := x
      simp only at a0 a1 a2
      cases e
      · cases hp : plainB b
        · by_cases h32 : b = 32
          · have t32 : ((b.toNat : Int) == 32) = true := beq_yes _ 32 _ rfl h32
            have HW := Lib.hid (show written ⟨b, false, m⟩ = [95] by unfold written; rw [if_neg (by simp [hp]), if_pos ⟨rfl, h32⟩])
            have HP := Lib.hid hp
            clear hp h32
            go_wp2_with (first
              | (go_at_call 9; refine (plain_c _ _).mono ?_; rintro e w1 ⟨rfl, rfl⟩; rw [HP.out])
              | (at_builtin; refine append_byte (w := wr.alloc _) rfl (.tmp 46) (.tmp 47) rfl w.heap.size _ acc 95 rfl (hown.alloc _) (by simp; rfl) (by omega) ?_; intro v2 w2 hown2 hb2 hz2))
            go_roundw
            case rel => exact ⟨k + 1, _, by omega, by go_num, by rw [HX.out, ← HA.out, HW.out], by simp; omega, hown2, (hbel.alloc hbel.size _).trans hb2⟩
            case measure => simp [intOf]; omega
          · have t32 : ((b.toNat : Int) == 32) = false := beq_no _ 32 _ rfl h32
            cases m
            · have HW := Lib.hid (show written ⟨b, false, false⟩ = [61, hexCap (b.toNat / 16), hexCap (b.toNat % 16)] by unfold written; rw [if_neg (by simp [hp]), if_neg (by simp [h32]), if_neg (by simp)])
              have HP := Lib.hid hp
              clear hp h32
              go_wp2_with (go_at_call 9; refine (plain_c _ _).mono ?_; rintro e w1 ⟨rfl, rfl⟩; rw [HP.out])
              obtain ⟨hi, hhi, hhi16⟩ : ∃ hi, hi = b.toNat / 16 ∧ hi < 16 := ⟨_, rfl, by have := b.toNat_lt; omega⟩
              obtain ⟨lo, hlo, hlo16⟩ : ∃ lo, lo = b.toNat % 16 ∧ lo < 16 := ⟨_, rfl, by omega⟩
              have q1 : IntKind.u8.wrap ((b.toNat : Int) / 16) = (hi : Int) := by rw [IntWalk.u8_in _ (by omega)]; omega
              have q2 : ((b.toNat : Int)).tmod 16 = (lo : Int) := by rw [Int.tmod_eq_emod_of_nonneg (by omega)]; omega
              have q3 : (hi : Int) < 16 := by omega
              have q4 : (lo : Int) < 16 := by omega
              have q5 := cap_at hi hhi16
              have q6 := cap_at lo hlo16
              rw [← hhi, ← hlo] at HW
              clear hhi hlo
              go_region_law (refine step_append_bytes (w := _) rfl (.tmp 12) (.tmp 21) rfl w.heap.size u3 acc [61, hexCap hi, hexCap lo] _ (three_cells _ _ _) 3 rfl (by rfl) (hown.alloc _).drew (by simp; rfl) (by simp; omega) ?_; intro v1 w1 hown1 hb1 hz1)
              all_goals
                go_wp2
                go_roundw
                case rel => exact ⟨k + 1, _, by omega, by go_num, by rw [HX.out, ← HA.out, HW.out], by simp; omega, hown1, (hbel.alloc hbel.size _).drew.trans hb1⟩
                case measure => simp [intOf]; omega
            · have HW := Lib.hid (show written ⟨b, false, true⟩ = [61, hexLow (b.toNat / 16), hexLow (b.toNat % 16)] by unfold written; rw [if_neg (by simp [hp]), if_neg (by simp [h32]), if_pos rfl])
              have HP := Lib.hid hp
              clear hp h32
              go_wp2_with (go_at_call 9; refine (plain_c _ _).mono ?_; rintro e w1 ⟨rfl, rfl⟩; rw [HP.out])
              obtain ⟨hi, hhi, hhi16⟩ : ∃ hi, hi = b.toNat / 16 ∧ hi < 16 := ⟨_, rfl, by have := b.toNat_lt; omega⟩
              obtain ⟨lo, hlo, hlo16⟩ : ∃ lo, lo = b.toNat % 16 ∧ lo < 16 := ⟨_, rfl, by omega⟩
              have q1 : IntKind.u8.wrap ((b.toNat : Int) / 16) = (hi : Int) := by rw [IntWalk.u8_in _ (by omega)]; omega
              have q2 : ((b.toNat : Int)).tmod 16 = (lo : Int) := by rw [Int.tmod_eq_emod_of_nonneg (by omega)]; omega
              have q3 : (hi : Int) < 16 := by omega
              have q4 : (lo : Int) < 16 := by omega
              have q5 := low_at hi hhi16
              have q6 := low_at lo hlo16
              rw [← hhi, ← hlo] at HW
              clear hhi hlo
              go_region_law (refine step_append_bytes (w := _) rfl (.tmp 52) (.tmp 61) rfl w.heap.size u3 acc [61, hexLow hi, hexLow lo] _ (three_cells _ _ _) 3 rfl (by rfl) (hown.alloc _).drew (by simp; rfl) (by simp; omega) ?_; intro v1 w1 hown1 hb1 hz1)
              all_goals
                go_wp2
                go_roundw
                case rel => exact ⟨k + 1, _, by omega, by go_num, by rw [HX.out, ← HA.out, HW.out], by simp; omega, hown1, (hbel.alloc hbel.size _).drew.trans hb1⟩
                case measure => simp [intOf]; omega
        · have HW := Lib.hid (show written ⟨b, false, m⟩ = [b] by unfold written; rw [if_pos ⟨rfl, hp⟩])
          have HP := Lib.hid hp
          clear hp
          go_wp2_with (first
            | (go_at_call 9; refine (plain_c _ _).mono ?_; rintro e w1 ⟨rfl, rfl⟩; rw [HP.out])
            | (at_builtin; refine append_byte (w := wr.alloc _) rfl (.tmp 32) (.tmp 35) rfl w.heap.size _ acc _ rfl (hown.alloc _) (by simp; rfl) (by omega) ?_; intro v2 w2 hown2 hb2 hz2))
          go_roundw
          case rel => exact ⟨k + 1, _, by omega, by go_num, by rw [HX.out, ← HA.out, HW.out], by simp; omega, hown2, (hbel.alloc hbel.size _).trans hb2⟩
          case measure => simp [intOf]; omega
      · cases m
        · have HW := Lib.hid (show written ⟨b, true, false⟩ = [61, hexCap (b.toNat / 16), hexCap (b.toNat % 16)] by unfold written; rw [if_neg (by simp), if_neg (by simp), if_neg (by simp)])
          go_wp2_with fail
          obtain ⟨hi, hhi, hhi16⟩ : ∃ hi, hi = b.toNat / 16 ∧ hi < 16 := ⟨_, rfl, by have := b.toNat_lt; omega⟩
          obtain ⟨lo, hlo, hlo16⟩ : ∃ lo, lo = b.toNat % 16 ∧ lo < 16 := ⟨_, rfl, by omega⟩
          have q1 : IntKind.u8.wrap ((b.toNat : Int) / 16) = (hi : Int) := by rw [IntWalk.u8_in _ (by omega)]; omega
          have q2 : ((b.toNat : Int)).tmod 16 = (lo : Int) := by rw [Int.tmod_eq_emod_of_nonneg (by omega)]; omega
          have q3 : (hi : Int) < 16 := by omega
          have q4 : (lo : Int) < 16 := by omega
          have q5 := cap_at hi hhi16
          have q6 := cap_at lo hlo16
          rw [← hhi, ← hlo] at HW
          clear hhi hlo
          go_region_law (refine step_append_bytes (w := _) rfl (.tmp 12) (.tmp 21) rfl w.heap.size u3 acc [61, hexCap hi, hexCap lo] _ (three_cells _ _ _) 3 rfl (by rfl) (hown.alloc _).drew (by simp; rfl) (by simp; omega) ?_; intro v1 w1 hown1 hb1 hz1)
          all_goals
            go_wp2
            go_roundw
            case rel => exact ⟨k + 1, _, by omega, by go_num, by rw [HX.out, ← HA.out, HW.out], by simp; omega, hown1, (hbel.alloc hbel.size _).drew.trans hb1⟩
            case measure => simp [intOf]; omega
        · have HW := Lib.hid (show written ⟨b, true, true⟩ = [61, hexLow (b.toNat / 16), hexLow (b.toNat % 16)] by unfold written; rw [if_neg (by simp), if_neg (by simp), if_pos rfl])
          go_wp2_with fail
          obtain ⟨hi, hhi, hhi16⟩ : ∃ hi, hi = b.toNat / 16 ∧ hi < 16 := ⟨_, rfl, by have := b.toNat_lt; omega⟩
          obtain ⟨lo, hlo, hlo16⟩ : ∃ lo, lo = b.toNat % 16 ∧ lo < 16 := ⟨_, rfl, by omega⟩
          have q1 : IntKind.u8.wrap ((b.toNat : Int) / 16) = (hi : Int) := by rw [IntWalk.u8_in _ (by omega)]; omega
          have q2 : ((b.toNat : Int)).tmod 16 = (lo : Int) := by rw [Int.tmod_eq_emod_of_nonneg (by omega)]; omega
          have q3 : (hi : Int) < 16 := by omega
          have q4 : (lo : Int) < 16 := by omega
          have q5 := low_at hi hhi16
          have q6 := low_at lo hlo16
          rw [← hhi, ← hlo] at HW
          clear hhi hlo
          go_region_law (refine step_append_bytes (w := _) rfl (.tmp 52) (.tmp 61) rfl w.heap.size u3 acc [61, hexLow hi, hexLow lo] _ (three_cells _ _ _) 3 rfl (by rfl) (hown.alloc _).drew (by simp; rfl) (by simp; omega) ?_; intro v1 w1 hown1 hb1 hz1)
          all_goals
            go_wp2
            go_roundw
            case rel => exact ⟨k + 1, _, by omega, by go_num, by rw [HX.out, ← HA.out, HW.out], by simp; omega, hown1, (hbel.alloc hbel.size _).drew.trans hb1⟩
            case measure => simp [intOf]; omega
    · have hkl : k = l.length := by omega
      have HE := Lib.hid (show acc = qtext l by rw [HA.out, hkl, List.take_length])
      have hcv := own_string hown
      go_wp2_with fail
      go_ret
      exact ⟨by rw [← HE.out]; rfl, hbel⟩
end Go.Proofs.YthlbfllefekkcaaDoor
