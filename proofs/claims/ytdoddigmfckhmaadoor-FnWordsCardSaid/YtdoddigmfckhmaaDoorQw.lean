/-
  CONTRACT OF mime's writeQString on a builder of the call's own.
-/
import Derived.Test.YtdoddigmfckhmaaDoorWrd
import Derived.Test.YtdoddigmfckhmaaDoorCap
namespace Go.Proofs.YtdoddigmfckhmaaDoor
open Go.RowKit

def plainQ (c : UInt8) : Bool := decide (33 ≤ (c.toNat : Int)) && decide ((c.toNat : Int) ≤ 126) && ((c.toNat : Int) != 61) && ((c.toNat : Int) != 63) && ((c.toNat : Int) != 95)
def qwB (c : UInt8) : List UInt8 := if c = 32 then [95] else if plainQ c = true then [c] else [61, hexCap (c.toNat / 16), hexCap (c.toNat % 16)]
def qwL (l : List UInt8) : List UInt8 := l.flatMap qwB
theorem qwB_len (c : UInt8) : (qwB c).length ≤ 3 := by unfold qwB; split <;> (try split) <;> simp
theorem qwL_len (l : List UInt8) : (qwL l).length ≤ 3 * l.length := by
  unfold qwL
  induction l with
  | nil => simp
  | cons c r ih => have := qwB_len c; rw [List.flatMap_cons, List.length_append, List.length_cons]; omega
theorem plainQ_yes (c : UInt8) (h : plainQ c = true) : decide (33 ≤ (c.toNat : Int)) = true ∧ decide ((c.toNat : Int) ≤ 126) = true ∧ ((c.toNat : Int) != 61) = true ∧ ((c.toNat : Int) != 63) = true ∧ ((c.toNat : Int) != 95) = true := by
  unfold plainQ at h
  revert h
  generalize decide (33 ≤ (c.toNat : Int)) = a
  generalize decide ((c.toNat : Int) ≤ 126) = b
  generalize ((c.toNat : Int) != 61) = d
  generalize ((c.toNat : Int) != 63) = e
  generalize ((c.toNat : Int) != 95) = f
  cases a <;> cases b <;> cases d <;> cases e <;> cases f <;> decide
theorem plainQ_no (c : UInt8) (h : plainQ c = false) : (decide (33 ≤ (c.toNat : Int)) = false) ∨ (decide (33 ≤ (c.toNat : Int)) = true ∧ decide ((c.toNat : Int) ≤ 126) = false) ∨ (decide (33 ≤ (c.toNat : Int)) = true ∧ decide ((c.toNat : Int) ≤ 126) = true ∧ ((c.toNat : Int) != 61) = false) ∨ (decide (33 ≤ (c.toNat : Int)) = true ∧ decide ((c.toNat : Int) ≤ 126) = true ∧ ((c.toNat : Int) != 61) = true ∧ ((c.toNat : Int) != 63) = false) ∨ (decide (33 ≤ (c.toNat : Int)) = true ∧ decide ((c.toNat : Int) ≤ 126) = true ∧ ((c.toNat : Int) != 61) = true ∧ ((c.toNat : Int) != 63) = true ∧ ((c.toNat : Int) != 95) = false) := by
  unfold plainQ at h
  revert h
  generalize decide (33 ≤ (c.toNat : Int)) = a
  generalize decide ((c.toNat : Int) ≤ 126) = b
  generalize ((c.toNat : Int) != 61) = d
  generalize ((c.toNat : Int) != 63) = e
  generalize ((c.toNat : Int) != 95) = f
  cases a <;> cases b <;> cases d <;> cases e <;> cases f <;> decide
theorem and15_all : ∀ n : Fin 256, bits BinOp.and IntKind.u8 (n.val : Int) 15 = ((n.val % 16 : Nat) : Int) := by decide +kernel
theorem and15 (c : UInt8) : bits BinOp.and IntKind.u8 (c.toNat : Int) 15 = ((c.toNat % 16 : Nat) : Int) := and15_all ⟨c.toNat, c.toNat_lt⟩

set_option maxHeartbeats 2000000 in
set_option maxRecDepth 100000 in
theorem writeQ_c (B b : Nat) (acc : List UInt8) (s : ByteArray) (w0 w : World) (hst0 : St B b acc w0 w) (hlen : acc.length ≤ 35184372088832) (hs : s.size ≤ 1099511627776) :
    Calls Tryd.prog 35 #[.pointer (some ⟨b, 0, none⟩), .string s] w fun e w' => e = .returned (.tuple #[]) ∧ St B b (acc ++ qwL (L s)) w0 w' := by
  have HS0 := Lib.hid hst0
  clear hst0
  go_enter Tryd.func35, Tryd.ntmps35
  go_wp2
  go_loopw [4] (fun iv wr => ∃ (k : Nat) (ac : List UInt8), iv = .int .i64 k ∧ k ≤ s.size ∧ St B b ac w0 wr ∧ ac ++ qwL ((L s).drop k) = acc ++ qwL (L s) ∧ ac.length ≤ acc.length + 3 * k) (fun iv _ => s.size - (intOf iv).toNat)
  case atStart => exact ⟨0, acc, rfl, Nat.zero_le _, HS0.out, by rw [List.drop_zero], by omega⟩
  case round =>
    obtain ⟨k, ac, rfl, hk, hst, hrem, hal⟩ := hrel
    by_cases hlt : k < s.size
    · have hd := L_drop s k hlt
      rw [hd] at hrem
      have HR := Lib.hid (show ac ++ (qwB s[k] ++ qwL ((L s).drop (k + 1))) = acc ++ qwL (L s) from hrem)
      clear hd hrem
      by_cases c32 : s[k] = 32
      · have t32 : ((s[k].toNat : Int) == 32) = true := beq_yes _ 32 _ rfl c32
        have HNX := Lib.hid (show ac ++ [95] ++ qwL ((L s).drop (k + 1)) = acc ++ qwL (L s) by rw [← HR.out, qwB, if_pos c32, List.append_assoc])
        clear c32
        go_wp2_with fail
        refine (stByte hst 95 (by omega)).mono ?_
        rintro e w2 ⟨rfl, hst2⟩
        go_wp2_with fail
        go_roundw
        case rel => exact ⟨k + 1, _, by go_num, by omega, hst2, HNX.out, by simp only [List.length_append, List.length_cons, List.length_nil]; omega⟩
        case measure => simp [intOf]; omega
      · have t32 : ((s[k].toNat : Int) == 32) = false := beq_no _ 32 _ rfl c32
        cases hp : plainQ s[k]
        · obtain ⟨hh, hhh, hh16⟩ : ∃ hh, hh = s[k].toNat / 16 ∧ hh < 16 := ⟨_, rfl, by have := s[k].toNat_lt; omega⟩
          obtain ⟨ll, hll, ll16⟩ : ∃ ll, ll = s[k].toNat % 16 ∧ ll < 16 := ⟨_, rfl, by omega⟩
          have HNX := Lib.hid (show ac ++ [61] ++ [hexCap hh] ++ [hexCap ll] ++ qwL ((L s).drop (k + 1)) = acc ++ qwL (L s) by rw [← HR.out, qwB, if_neg c32, if_neg (by rw [hp]; decide), hhh, hll]; simp)
          have q1 : IntKind.u8.wrap ((s[k].toNat : Int) / 16) = (hh : Int) := by rw [IntWalk.u8_in _ (by omega)]; omega
          have q0 : (s[k].toNat : Int) / 16 = (hh : Int) := by omega
          have q2 : bits .and .u8 (s[k].toNat : Int) 15 = (ll : Int) := by rw [hll]; exact and15 s[k]
          have q3 : (hh : Int) < 16 := by omega
          have q4 : (ll : Int) < 16 := by omega
          have q5 := cap_at hh hh16
          have q6 := cap_at ll ll16
          have hcase := plainQ_no s[k] hp
          clear hhh hll c32 hp
          rcases hcase with t0 | ⟨t0, t1⟩ | ⟨t0, t1, t2⟩ | ⟨t0, t1, t2, t3⟩ | ⟨t0, t1, t2, t3, t4⟩
          · go_wp2_with fail
            refine (stByte hst 61 (by omega)).mono ?_
            rintro e w2 ⟨rfl, hst2⟩
            go_wp2_with fail
            refine (stByte hst2 (hexCap hh) (by simp only [List.length_append, List.length_cons, List.length_nil]; omega)).mono ?_
            rintro e w3 ⟨rfl, hst3⟩
            go_wp2_with fail
            refine (stByte hst3 (hexCap ll) (by simp only [List.length_append, List.length_cons, List.length_nil]; omega)).mono ?_
            rintro e w4 ⟨rfl, hst4⟩
            go_wp2_with fail
            go_roundw
            case rel => exact ⟨k + 1, _, by go_num, by omega, hst4, HNX.out, by simp only [List.length_append, List.length_cons, List.length_nil]; omega⟩
            case measure => simp [intOf]; omega
          · go_wp2_with fail
            refine (stByte hst 61 (by omega)).mono ?_
            rintro e w2 ⟨rfl, hst2⟩
            go_wp2_with fail
            refine (stByte hst2 (hexCap hh) (by simp only [List.length_append, List.length_cons, List.length_nil]; omega)).mono ?_
            rintro e w3 ⟨rfl, hst3⟩
            go_wp2_with fail
            refine (stByte hst3 (hexCap ll) (by simp only [List.length_append, List.length_cons, List.length_nil]; omega)).mono ?_
            rintro e w4 ⟨rfl, hst4⟩
            go_wp2_with fail
            go_roundw
            case rel => exact ⟨k + 1, _, by go_num, by omega, hst4, HNX.out, by simp only [List.length_append, List.length_cons, List.length_nil]; omega⟩
            case measure => simp [intOf]; omega
          · go_wp2_with fail
            refine (stByte hst 61 (by omega)).mono ?_
            rintro e w2 ⟨rfl, hst2⟩
            go_wp2_with fail
            refine (stByte hst2 (hexCap hh) (by simp only [List.length_append, List.length_cons, List.length_nil]; omega)).mono ?_
            rintro e w3 ⟨rfl, hst3⟩
            go_wp2_with fail
            refine (stByte hst3 (hexCap ll) (by simp only [List.length_append, List.length_cons, List.length_nil]; omega)).mono ?_
            rintro e w4 ⟨rfl, hst4⟩
            go_wp2_with fail
            go_roundw
            case rel => exact ⟨k + 1, _, by go_num, by omega, hst4, HNX.out, by simp only [List.length_append, List.length_cons, List.length_nil]; omega⟩
            case measure => simp [intOf]; omega
          · go_wp2_with fail
            refine (stByte hst 61 (by omega)).mono ?_
            rintro e w2 ⟨rfl, hst2⟩
            go_wp2_with fail
            refine (stByte hst2 (hexCap hh) (by simp only [List.length_append, List.length_cons, List.length_nil]; omega)).mono ?_
            rintro e w3 ⟨rfl, hst3⟩
            go_wp2_with fail
            refine (stByte hst3 (hexCap ll) (by simp only [List.length_append, List.length_cons, List.length_nil]; omega)).mono ?_
            rintro e w4 ⟨rfl, hst4⟩
            go_wp2_with fail
            go_roundw
            case rel => exact ⟨k + 1, _, by go_num, by omega, hst4, HNX.out, by simp only [List.length_append, List.length_cons, List.length_nil]; omega⟩
            case measure => simp [intOf]; omega
          · go_wp2_with fail
            refine (stByte hst 61 (by omega)).mono ?_
            rintro e w2 ⟨rfl, hst2⟩
            go_wp2_with fail
            refine (stByte hst2 (hexCap hh) (by simp only [List.length_append, List.length_cons, List.length_nil]; omega)).mono ?_
            rintro e w3 ⟨rfl, hst3⟩
            go_wp2_with fail
            refine (stByte hst3 (hexCap ll) (by simp only [List.length_append, List.length_cons, List.length_nil]; omega)).mono ?_
            rintro e w4 ⟨rfl, hst4⟩
            go_wp2_with fail
            go_roundw
            case rel => exact ⟨k + 1, _, by go_num, by omega, hst4, HNX.out, by simp only [List.length_append, List.length_cons, List.length_nil]; omega⟩
            case measure => simp [intOf]; omega
        · obtain ⟨t0, t1, t2, t3, t4⟩ := plainQ_yes s[k] hp
          have HNX := Lib.hid (show ac ++ [s[k]] ++ qwL ((L s).drop (k + 1)) = acc ++ qwL (L s) by rw [← HR.out, qwB, if_neg c32, if_pos hp, List.append_assoc])
          clear c32 hp
          go_wp2_with fail
          refine (stByte hst s[k] (by omega)).mono ?_
          rintro e w2 ⟨rfl, hst2⟩
          go_wp2_with fail
          go_roundw
          case rel => exact ⟨k + 1, _, by go_num, by omega, hst2, HNX.out, by simp only [List.length_append, List.length_cons, List.length_nil]; omega⟩
          case measure => simp [intOf]; omega
    · have HE := Lib.hid (show ac = acc ++ qwL (L s) by rw [← hrem, L_drop_end s k hlt]; simp [qwL])
      clear hrem
      go_wp2_with fail
      go_end0
      exact ⟨rfl, by rw [← HE.out]; exact hst⟩
end Go.Proofs.YtdoddigmfckhmaaDoor
