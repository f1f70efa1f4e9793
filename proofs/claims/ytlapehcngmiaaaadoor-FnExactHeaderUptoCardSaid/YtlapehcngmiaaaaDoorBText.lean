/-
  CONTRACT OF spec's BText: the text of bytes in Base64; for texts of at most 2 to the 40th bytes.
-/
import Derived.Test.YtlapehcngmiaaaaDoorB64
import Derived.Test.YtlapehcngmiaaaaDoorByt
import Derived.Test.YtlapehcngmiaaaaDoorRows
import Derived.IntWalk
import Derived.BigQuiet
import Derived.Deep.QuietTactic
namespace Go.Proofs.YtlapehcngmiaaaaDoor
open Go.RowKit

/-- The number of the first j of at most three bytes. -/
def nvf (l : List UInt8) : Nat → Nat
  | 0 => 0
  | j + 1 => nvf l j * 256 + (match l[j]? with | some c => c.toNat | none => 0)
theorem nvf_lt (l : List UInt8) (j : Nat) : nvf l j < 256 ^ j := by
  induction j with
  | zero => simp [nvf]
  | succ j ih =>
    have : (match l[j]? with | some c => c.toNat | none => 0) < 256 := by
      split
      · next c _ => exact c.toNat_lt
      · omega
    rw [nvf, Nat.pow_succ]
    omega
theorem nvf_in (l : List UInt8) (j : Nat) (c : UInt8) (h : l[j]? = some c) : nvf l (j + 1) = nvf l j * 256 + c.toNat := by rw [nvf, h]
theorem nvf_out (l : List UInt8) (j : Nat) (h : l.length ≤ j) : nvf l (j + 1) = nvf l j * 256 := by simp [nvf, List.getElem?_eq_none h]
theorem i64_and63 (n : Int) : bits .and .i64 n 63 = n % 64 := by
  have h63 : (BitVec.ofInt 64 63).toNat = 2 ^ 6 - 1 := by decide
  have key : (BitVec.ofInt 64 n &&& BitVec.ofInt 64 63).toNat = (n % ((2 ^ 64 : Nat) : Int)).toNat % 2 ^ 6 := by
    rw [BitVec.toNat_and, BitVec.toNat_ofInt, h63, Nat.and_two_pow_sub_one_eq_mod]
  show IntKind.i64.wrap ((BitVec.ofInt 64 n &&& BitVec.ofInt 64 63).toNat : Nat) = n % 64
  rw [key, IntKind.wrap_i64]
  omega
theorem tab64_all : ∀ i : Fin 64, (⟨#[65, 66, 67, 68, 69, 70, 71, 72, 73, 74, 75, 76, 77, 78, 79, 80, 81, 82, 83, 84, 85, 86, 87, 88, 89, 90, 97, 98, 99, 100, 101, 102, 103, 104, 105, 106, 107, 108, 109, 110, 111, 112, 113, 114, 115, 116, 117, 118, 119, 120, 121, 122, 48, 49, 50, 51, 52, 53, 54, 55, 56, 57, 43, 47]⟩ : ByteArray)[i.val]'(i.isLt) = dig i.val := by decide
theorem tab64_at (n : Nat) (c : UInt8) (hn : n < 64) (hc : c = dig n) (hi) : ((⟨#[65, 66, 67, 68, 69, 70, 71, 72, 73, 74, 75, 76, 77, 78, 79, 80, 81, 82, 83, 84, 85, 86, 87, 88, 89, 90, 97, 98, 99, 100, 101, 102, 103, 104, 105, 106, 107, 108, 109, 110, 111, 112, 113, 114, 115, 116, 117, 118, 119, 120, 121, 122, 48, 49, 50, 51, 52, 53, 54, 55, 56, 57, 43, 47]⟩ : ByteArray)[n]'hi).toNat = c.toNat := by rw [hc, tab64_all ⟨n, hn⟩]
/-- The digits of at most three bytes, one by one. -/
theorem quad_at (l : List UInt8) (h0 : 1 ≤ l.length) (h3 : l.length ≤ 3) : b64 l = [dig (nvf l 3 / 262144 % 64), dig (nvf l 3 / 4096 % 64), if 2 ≤ l.length then dig (nvf l 3 / 64 % 64) else 61, if 3 ≤ l.length then dig (nvf l 3 % 64) else 61] := by
  match l, h0, h3 with
  | [a], _, _ =>
    have e : nvf [a] 3 = a.toNat * 65536 := by simp only [nvf, List.getElem?_cons_zero, List.getElem?_cons_succ, List.getElem?_nil]; omega
    rw [e]; rfl
  | [a, b], _, _ =>
    have e : nvf [a, b] 3 = a.toNat * 65536 + b.toNat * 256 := by simp only [nvf, List.getElem?_cons_zero, List.getElem?_cons_succ, List.getElem?_nil]; omega
    rw [e]; rfl
  | [a, b, c], _, _ =>
    have e : nvf [a, b, c] 3 = a.toNat * 65536 + b.toNat * 256 + c.toNat := by simp only [nvf, List.getElem?_cons_zero, List.getElem?_cons_succ]; omega
    rw [e, b64_three]; rfl

set_option maxHeartbeats 8000000 in
set_option maxRecDepth 100000 in
theorem btext_c (s : ByteArray) (w : World) (hs : s.size ≤ 1099511627776) : Calls Tryd.prog 13 #[.string s] w (Makes (.string ⟨(b64 (L s)).toArray⟩) w) := by
  go_enter Tryd.func13, Tryd.ntmps13
  go_wp2
  go_loopw [3, 4] (fun v i wr => ∃ (k : Nat) (acc : List UInt8), k ≤ s.size + 2 ∧ i = .int .i64 k ∧ acc ++ b64 ((L s).drop k) = b64 (L s) ∧ acc.length ≤ 2 * k ∧ Own w.heap.size v acc wr ∧ Below w.heap.size w wr) (fun _ i _ => s.size + 2 - (intOf i).toNat)
  case atStart => exact ⟨0, [], Nat.zero_le _, rfl, rfl, by simp, Own.nil w, Below.refl _ _⟩
  case round =>
    obtain ⟨k, acc, hk, rfl, hno, hal, hown, hbel⟩ := hrel
    have HN := Lib.hid hno
    clear hno
    by_cases hlt : k < s.size
    · obtain ⟨l3, hl3⟩ : ∃ l3, l3 = ((L s).drop k).take 3 := ⟨_, rfl⟩
      obtain ⟨m, hm⟩ : ∃ m, m = l3.length := ⟨_, rfl⟩
      have hmin : m = min 3 (s.size - k) := by rw [hm, hl3, List.length_take, List.length_drop, L_length]
      have hm1 : 1 ≤ m := by omega
      have hm3 : m ≤ 3 := by omega
      have hms : k + m ≤ s.size := by omega
      have hat : ∀ j, j < m → ∃ h : k + j < s.size, l3[j]? = some s[k + j] := by
        intro j hj
        have h : k + j < s.size := by omega
        refine ⟨h, ?_⟩
        rw [hl3, List.getElem?_take_of_lt (by omega), List.getElem?_drop]
        unfold L
        simp [h]
        rfl
      have HS := Lib.hid (show acc ++ b64 l3 ++ b64 ((L s).drop (k + 3)) = b64 (L s) by rw [← HN.out, b64_chunk' ((L s).drop k), ← hl3, List.drop_drop]; simp)
      have hquad := quad_at l3 (by omega) (by omega)
      obtain ⟨N, hN⟩ : ∃ N, N = nvf l3 3 := ⟨_, rfl⟩
      have hN1 : N < 16777216 := by rw [hN]; exact nvf_lt l3 3
      rw [← hN] at hquad
      obtain ⟨X0, hX0⟩ : ∃ X, X = N / 262144 % 64 := ⟨_, rfl⟩
      obtain ⟨X1, hX1⟩ : ∃ X, X = N / 4096 % 64 := ⟨_, rfl⟩
      obtain ⟨X2, hX2⟩ : ∃ X, X = N / 64 % 64 := ⟨_, rfl⟩
      obtain ⟨X3, hX3⟩ : ∃ X, X = N % 64 := ⟨_, rfl⟩
      obtain ⟨c0, hc0⟩ : ∃ c, c = dig X0 := ⟨_, rfl⟩
      obtain ⟨c1, hc1⟩ : ∃ c, c = dig X1 := ⟨_, rfl⟩
      obtain ⟨c2, hc2⟩ : ∃ c, c = dig X2 := ⟨_, rfl⟩
      obtain ⟨c3, hc3⟩ : ∃ c, c = dig X3 := ⟨_, rfl⟩
      rw [← hX0, ← hX1, ← hX2, ← hX3, ← hc0, ← hc1, ← hc2, ← hc3] at hquad
      have E0 : Hid (bits .and .i64 ((N : Int) / 262144) 63 = (X0 : Int)) := Lib.hid (by rw [i64_and63]; omega)
      have E1 : Hid (bits .and .i64 ((N : Int) / 4096) 63 = (X1 : Int)) := Lib.hid (by rw [i64_and63]; omega)
      have E2 : Hid (bits .and .i64 ((N : Int) / 64) 63 = (X2 : Int)) := Lib.hid (by rw [i64_and63]; omega)
      have E3 : Hid (bits .and .i64 (N : Int) 63 = (X3 : Int)) := Lib.hid (by rw [i64_and63]; omega)
      have B0 : Hid (X0 < 64) := Lib.hid (by omega)
      have B1 : Hid (X1 < 64) := Lib.hid (by omega)
      have B2 : Hid (X2 < 64) := Lib.hid (by omega)
      have B3 : Hid (X3 < 64) := Lib.hid (by omega)
      have D0 := Lib.hid hc0
      have D1 := Lib.hid hc1
      have D2 := Lib.hid hc2
      have D3 := Lib.hid hc3
      have HM := Lib.hid hm
      have HA := Lib.hid hat
      have HE := Lib.hid hN
      have HQ := Lib.hid hquad
      have hcase : (m = 3 ∧ (3 : Int) ≤ (s.size : Int) - (k : Int)) ∨ (m = 2 ∧ (s.size : Int) - (k : Int) = 2) ∨ (m = 1 ∧ (s.size : Int) - (k : Int) = 1) := by omega
      clear hat hl3 hm hmin hX0 hX1 hX2 hX3 hc0 hc1 hc2 hc3 hN hquad
      rcases hcase with ⟨rfl, hz⟩ | ⟨rfl, hz⟩ | ⟨rfl, hz⟩
      · have HZ := Lib.hid hz
        have HL : Hid (b64 l3 = [c0, c1, c2, c3]) := Lib.hid (by
          have h := HQ.out
          have e := HM.out
          rw [h]
          simp [← e])
        go_wp2
        go_loop [6, 7] (fun n j => ∃ q : Nat, q ≤ 3 ∧ j = .int .i64 q ∧ n = .int .i64 (nvf l3 q)) (fun _ j => 3 - (intOf j).toNat)
        case atStart => exact ⟨0, by omega, rfl, rfl⟩
        case round =>
          obtain ⟨q, hq, rfl, rfl⟩ := hrel
          clear hz
          by_cases hq3 : q < 3
          · have hn := nvf_lt l3 q
            have hn2 : nvf l3 q < 65536 := Nat.lt_of_lt_of_le hn (by rcases q with _ | _ | _ | q <;> first | decide | omega)
            clear hn
            by_cases hqm : q < 3
            · obtain ⟨hki, hc⟩ := HA.out q hqm
              have hb := s[k + q].toNat_lt
              have HC := Lib.hid (nvf_in l3 q _ hc)
              clear hc
              go_wp2
              go_round
              case rel => exact ⟨q + 1, by omega, by go_num, by rw [HC.out]; go_num⟩
              case measure => simp [intOf]; omega
            · omega
          · obtain rfl : q = 3 := by omega
            rw [← HE.out]
            obtain ⟨wo, rfl⟩ : ∃ wo : World, wo = wr := ⟨_, rfl⟩
            go_wp2
            go_loopw [3, 8] (fun v j wr => ∃ q : Nat, q ≤ 4 ∧ j = .int .i64 q ∧ Own w.heap.size v (acc ++ [c0, c1, c2, c3].take q) wr ∧ Below w.heap.size w wr) (fun _ j _ => 4 - (intOf j).toNat)
            case atStart => exact ⟨0, by omega, rfl, by simpa using hown, hbel⟩
            case round =>
              obtain ⟨q, hq, rfl, hown1, hbel1⟩ := hrel
              rcases q with _ | _ | _ | _ | q
              · have q1 := E0.out
                have q2 : (X0 : Int) < 64 := by have := B0.out; omega
                have q3 := tab64_at X0 c0 B0.out D0.out
                go_wp2_with (at_builtin; refine append_byte rfl (.tmp 44) (.tmp 52) rfl w.heap.size _ (acc ++ [c0, c1, c2, c3].take 0) c0 rfl hown1 rfl (by simp; omega) ?_; intro v2 w2 hown2 hb2 hz2)
                go_roundw
                case rel => exact ⟨1, by omega, by go_num, by simpa using hown2, hbel1.trans hb2⟩
                case measure => simp [intOf]
              · have q1 := E1.out
                have q2 : (X1 : Int) < 64 := by have := B1.out; omega
                have q3 := tab64_at X1 c1 B1.out D1.out
                go_wp2_with (at_builtin; refine append_byte rfl (.tmp 44) (.tmp 52) rfl w.heap.size _ (acc ++ [c0, c1, c2, c3].take 1) c1 rfl hown1 rfl (by simp; omega) ?_; intro v2 w2 hown2 hb2 hz2)
                go_roundw
                case rel => exact ⟨2, by omega, by go_num, by simpa using hown2, hbel1.trans hb2⟩
                case measure => simp [intOf]
              · have q1 := E2.out
                have q2 : (X2 : Int) < 64 := by have := B2.out; omega
                have q3 := tab64_at X2 c2 B2.out D2.out
                go_wp2_with (at_builtin; refine append_byte rfl (.tmp 44) (.tmp 52) rfl w.heap.size _ (acc ++ [c0, c1, c2, c3].take 2) c2 rfl hown1 rfl (by simp; omega) ?_; intro v2 w2 hown2 hb2 hz2)
                go_roundw
                case rel => exact ⟨3, by omega, by go_num, by simpa using hown2, hbel1.trans hb2⟩
                case measure => simp [intOf]
              · have q1 := E3.out
                have q2 : (X3 : Int) < 64 := by have := B3.out; omega
                have q3 := tab64_at X3 c3 B3.out D3.out
                go_wp2_with (at_builtin; refine append_byte rfl (.tmp 44) (.tmp 52) rfl w.heap.size _ (acc ++ [c0, c1, c2, c3].take 3) c3 rfl hown1 rfl (by simp; omega) ?_; intro v2 w2 hown2 hb2 hz2)
                go_roundw
                case rel => exact ⟨4, by omega, by go_num, by simpa using hown2, hbel1.trans hb2⟩
                case measure => simp [intOf]
              · obtain rfl : q = 0 := by omega
                go_wp2
                go_roundw
                case rel => exact ⟨k + 3, acc ++ [c0, c1, c2, c3], by omega, by go_num, by rw [← HL.out]; exact HS.out, by simp; omega, hown1, hbel1⟩
                case measure => simp [intOf]; omega
      · have HZ := Lib.hid hz
        have HL : Hid (b64 l3 = [c0, c1, c2, 61]) := Lib.hid (by
          have h := HQ.out
          have e := HM.out
          rw [h]
          simp [← e])
        go_wp2
        go_loop [6, 7] (fun n j => ∃ q : Nat, q ≤ 3 ∧ j = .int .i64 q ∧ n = .int .i64 (nvf l3 q)) (fun _ j => 3 - (intOf j).toNat)
        case atStart => exact ⟨0, by omega, rfl, rfl⟩
        case round =>
          obtain ⟨q, hq, rfl, rfl⟩ := hrel
          clear hz
          by_cases hq3 : q < 3
          · have hn := nvf_lt l3 q
            have hn2 : nvf l3 q < 65536 := Nat.lt_of_lt_of_le hn (by rcases q with _ | _ | _ | q <;> first | decide | omega)
            clear hn
            by_cases hqm : q < 2
            · obtain ⟨hki, hc⟩ := HA.out q hqm
              have hb := s[k + q].toNat_lt
              have HC := Lib.hid (nvf_in l3 q _ hc)
              clear hc
              go_wp2
              go_round
              case rel => exact ⟨q + 1, by omega, by go_num, by rw [HC.out]; go_num⟩
              case measure => simp [intOf]; omega
            · have HC := Lib.hid (nvf_out l3 q (by have := HM.out; omega))
              have hd : decide ((q : Int) < 2) = false := by simp; omega
              go_wp2
              go_round
              case rel => exact ⟨q + 1, by omega, by go_num, by rw [HC.out]; go_num⟩
              case measure => simp [intOf]; omega
          · obtain rfl : q = 3 := by omega
            rw [← HE.out]
            obtain ⟨wo, rfl⟩ : ∃ wo : World, wo = wr := ⟨_, rfl⟩
            go_wp2
            go_loopw [3, 8] (fun v j wr => ∃ q : Nat, q ≤ 4 ∧ j = .int .i64 q ∧ Own w.heap.size v (acc ++ [c0, c1, c2, 61].take q) wr ∧ Below w.heap.size w wr) (fun _ j _ => 4 - (intOf j).toNat)
            case atStart => exact ⟨0, by omega, rfl, by simpa using hown, hbel⟩
            case round =>
              obtain ⟨q, hq, rfl, hown1, hbel1⟩ := hrel
              rcases q with _ | _ | _ | _ | q
              · have q1 := E0.out
                have q2 : (X0 : Int) < 64 := by have := B0.out; omega
                have q3 := tab64_at X0 c0 B0.out D0.out
                go_wp2_with (at_builtin; refine append_byte rfl (.tmp 44) (.tmp 52) rfl w.heap.size _ (acc ++ [c0, c1, c2, 61].take 0) c0 rfl hown1 rfl (by simp; omega) ?_; intro v2 w2 hown2 hb2 hz2)
                go_roundw
                case rel => exact ⟨1, by omega, by go_num, by simpa using hown2, hbel1.trans hb2⟩
                case measure => simp [intOf]
              · have q1 := E1.out
                have q2 : (X1 : Int) < 64 := by have := B1.out; omega
                have q3 := tab64_at X1 c1 B1.out D1.out
                go_wp2_with (at_builtin; refine append_byte rfl (.tmp 44) (.tmp 52) rfl w.heap.size _ (acc ++ [c0, c1, c2, 61].take 1) c1 rfl hown1 rfl (by simp; omega) ?_; intro v2 w2 hown2 hb2 hz2)
                go_roundw
                case rel => exact ⟨2, by omega, by go_num, by simpa using hown2, hbel1.trans hb2⟩
                case measure => simp [intOf]
              · have q1 := E2.out
                have q2 : (X2 : Int) < 64 := by have := B2.out; omega
                have q3 := tab64_at X2 c2 B2.out D2.out
                go_wp2_with (at_builtin; refine append_byte rfl (.tmp 44) (.tmp 52) rfl w.heap.size _ (acc ++ [c0, c1, c2, 61].take 2) c2 rfl hown1 rfl (by simp; omega) ?_; intro v2 w2 hown2 hb2 hz2)
                go_roundw
                case rel => exact ⟨3, by omega, by go_num, by simpa using hown2, hbel1.trans hb2⟩
                case measure => simp [intOf]
              · go_wp2_with (at_builtin; refine append_byte rfl (.tmp 54) (.tmp 55) rfl w.heap.size _ (acc ++ [c0, c1, c2, 61].take 3) 61 rfl hown1 rfl (by simp; omega) ?_; intro v2 w2 hown2 hb2 hz2)
                go_roundw
                case rel => exact ⟨4, by omega, by go_num, by simpa using hown2, hbel1.trans hb2⟩
                case measure => simp [intOf]
              · obtain rfl : q = 0 := by omega
                go_wp2
                go_roundw
                case rel => exact ⟨k + 3, acc ++ [c0, c1, c2, 61], by omega, by go_num, by rw [← HL.out]; exact HS.out, by simp; omega, hown1, hbel1⟩
                case measure => simp [intOf]; omega
      · have HZ := Lib.hid hz
        have HL : Hid (b64 l3 = [c0, c1, 61, 61]) := Lib.hid (by
          have h := HQ.out
          have e := HM.out
          rw [h]
          simp [← e])
        go_wp2
        go_loop [6, 7] (fun n j => ∃ q : Nat, q ≤ 3 ∧ j = .int .i64 q ∧ n = .int .i64 (nvf l3 q)) (fun _ j => 3 - (intOf j).toNat)
        case atStart => exact ⟨0, by omega, rfl, rfl⟩
        case round =>
          obtain ⟨q, hq, rfl, rfl⟩ := hrel
          clear hz
          by_cases hq3 : q < 3
          · have hn := nvf_lt l3 q
            have hn2 : nvf l3 q < 65536 := Nat.lt_of_lt_of_le hn (by rcases q with _ | _ | _ | q <;> first | decide | omega)
            clear hn
            by_cases hqm : q < 1
            · obtain ⟨hki, hc⟩ := HA.out q hqm
              have hb := s[k + q].toNat_lt
              have HC := Lib.hid (nvf_in l3 q _ hc)
              clear hc
              go_wp2
              go_round
              case rel => exact ⟨q + 1, by omega, by go_num, by rw [HC.out]; go_num⟩
              case measure => simp [intOf]; omega
            · have HC := Lib.hid (nvf_out l3 q (by have := HM.out; omega))
              have hd : decide ((q : Int) < 1) = false := by simp; omega
              go_wp2
              go_round
              case rel => exact ⟨q + 1, by omega, by go_num, by rw [HC.out]; go_num⟩
              case measure => simp [intOf]; omega
          · obtain rfl : q = 3 := by omega
            rw [← HE.out]
            obtain ⟨wo, rfl⟩ : ∃ wo : World, wo = wr := ⟨_, rfl⟩
            go_wp2
            go_loopw [3, 8] (fun v j wr => ∃ q : Nat, q ≤ 4 ∧ j = .int .i64 q ∧ Own w.heap.size v (acc ++ [c0, c1, 61, 61].take q) wr ∧ Below w.heap.size w wr) (fun _ j _ => 4 - (intOf j).toNat)
            case atStart => exact ⟨0, by omega, rfl, by simpa using hown, hbel⟩
            case round =>
              obtain ⟨q, hq, rfl, hown1, hbel1⟩ := hrel
              rcases q with _ | _ | _ | _ | q
              · have q1 := E0.out
                have q2 : (X0 : Int) < 64 := by have := B0.out; omega
                have q3 := tab64_at X0 c0 B0.out D0.out
                go_wp2_with (at_builtin; refine append_byte rfl (.tmp 44) (.tmp 52) rfl w.heap.size _ (acc ++ [c0, c1, 61, 61].take 0) c0 rfl hown1 rfl (by simp; omega) ?_; intro v2 w2 hown2 hb2 hz2)
                go_roundw
                case rel => exact ⟨1, by omega, by go_num, by simpa using hown2, hbel1.trans hb2⟩
                case measure => simp [intOf]
              · have q1 := E1.out
                have q2 : (X1 : Int) < 64 := by have := B1.out; omega
                have q3 := tab64_at X1 c1 B1.out D1.out
                go_wp2_with (at_builtin; refine append_byte rfl (.tmp 44) (.tmp 52) rfl w.heap.size _ (acc ++ [c0, c1, 61, 61].take 1) c1 rfl hown1 rfl (by simp; omega) ?_; intro v2 w2 hown2 hb2 hz2)
                go_roundw
                case rel => exact ⟨2, by omega, by go_num, by simpa using hown2, hbel1.trans hb2⟩
                case measure => simp [intOf]
              · go_wp2_with (at_builtin; refine append_byte rfl (.tmp 54) (.tmp 55) rfl w.heap.size _ (acc ++ [c0, c1, 61, 61].take 2) 61 rfl hown1 rfl (by simp; omega) ?_; intro v2 w2 hown2 hb2 hz2)
                go_roundw
                case rel => exact ⟨3, by omega, by go_num, by simpa using hown2, hbel1.trans hb2⟩
                case measure => simp [intOf]
              · go_wp2_with (at_builtin; refine append_byte rfl (.tmp 54) (.tmp 55) rfl w.heap.size _ (acc ++ [c0, c1, 61, 61].take 3) 61 rfl hown1 rfl (by simp; omega) ?_; intro v2 w2 hown2 hb2 hz2)
                go_roundw
                case rel => exact ⟨4, by omega, by go_num, by simpa using hown2, hbel1.trans hb2⟩
                case measure => simp [intOf]
              · obtain rfl : q = 0 := by omega
                go_wp2
                go_roundw
                case rel => exact ⟨k + 3, acc ++ [c0, c1, 61, 61], by omega, by go_num, by rw [← HL.out]; exact HS.out, by simp; omega, hown1, hbel1⟩
                case measure => simp [intOf]; omega
    · have hend : acc = b64 (L s) := by
        have h := HN.out
        rw [L_drop_end s k hlt] at h
        simpa [b64] using h
      have HE := Lib.hid hend
      clear hend
      have hcv := own_string hown
      go_wp2_with fail
      go_ret
      exact ⟨by rw [← HE.out]; rfl, hbel⟩
end Go.Proofs.YtlapehcngmiaaaaDoor
