/-
  CONTRACTS OF mime's zzIndex AND zzCut: where a text stands first in another one; the text cut there; for texts of at most 2 to the 40th bytes.
-/
import Derived.Test.YtglffpjobjpmpaaDoorBase
import Derived.Test.YtglffpjobjpmpaaDoorRows
import Derived.Deep.QuietTactic
import Derived.BigQuiet
import Derived.IntWalk
namespace Go.Proofs.YtglffpjobjpmpaaDoor
open Go.RowKit

/-- Where 'sub' stands first. -/
def ixOf (sub : List UInt8) : List UInt8 → Option Nat
  | [] => if sub = [] then some 0 else none
  | c :: r => if (c :: r).take sub.length = sub then some 0 else (ixOf sub r).map (· + 1)
def ixInt (o : Option Nat) : Int := match o with
  | some n => (n : Int)
  | none => -1

theorem ixOf_hit (sub l : List UInt8) (h : l.take sub.length = sub) : ixOf sub l = some 0 := by
  cases l with
  | nil => rw [ixOf, if_pos (by simpa using h.symm)]
  | cons c r => rw [ixOf, if_pos h]
theorem ixOf_miss (sub : List UInt8) (c : UInt8) (r : List UInt8) (h : ¬ (c :: r).take sub.length = sub) : ixOf sub (c :: r) = (ixOf sub r).map (· + 1) := by rw [ixOf, if_neg h]
theorem ixOf_short (sub l : List UInt8) (h : l.length < sub.length) : ixOf sub l = none := by
  induction l with
  | nil => rw [ixOf, if_neg (by rintro rfl; simp at h)]
  | cons c r ih =>
    rw [ixOf_miss, ih (by simp at h; omega)]
    · rfl
    · intro e
      have := congrArg List.length e
      simp at this h
      omega
theorem ixOf_bound (sub l : List UInt8) (n : Nat) (h : ixOf sub l = some n) : n + sub.length ≤ l.length ∧ (l.drop n).take sub.length = sub := by
  induction l generalizing n with
  | nil =>
    rw [ixOf] at h
    split at h
    · cases h
      rename_i e
      subst e
      simp
    · cases h
  | cons c r ih =>
    by_cases hh : (c :: r).take sub.length = sub
    · rw [ixOf, if_pos hh] at h
      cases h
      have := congrArg List.length hh
      simp at this
      exact ⟨by simp; omega, hh⟩
    · rw [ixOf_miss sub c r hh] at h
      cases hr : ixOf sub r with
      | none => rw [hr] at h; cases h
      | some m =>
        rw [hr] at h
        cases h
        have := ih m hr
        exact ⟨by simp; omega, by simpa using this.2⟩

theorem slice_eq (s : ByteArray) (k n : Nat) (h : k + n ≤ s.size) (w : World) :
    (Instr.slice 9 (.string s) (some (.int .i64 (k : Int))) (some (.int .i64 ((k : Int) + (n : Int)))) none).run Tryd.prog w = .ok (.string (s.extract k (k + n))) w := by
  rw [run_slice_string w 9 s .i64 .i64 k ((k : Int) + (n : Int)) Tryd.underlying9 (by omega) (by omega) (by omega)]
  congr 3

set_option maxRecDepth 100000 in
theorem zzIndex_c (s sub : ByteArray) (w : World) (hs : s.size ≤ 1099511627776) (hsub : sub.size ≤ 1099511627776) :
    Calls Tryd.prog 40 #[.string s, .string sub] w (Pure (.int .i64 (ixInt (ixOf (L sub) (L s)))) w) := by
  go_enter Tryd.func40, Tryd.ntmps40
  go_wp2
  go_loop [5] (fun i => ∃ k : Nat, k ≤ s.size + 1 ∧ i = .int .i64 k ∧ (k ≤ s.size → (ixOf (L sub) ((L s).drop k)).map (k + ·) = ixOf (L sub) (L s)) ∧ (¬ k ≤ s.size → ixOf (L sub) (L s) = none)) (fun i => s.size + 1 - (intOf i).toNat)
  case atStart => exact ⟨0, Nat.zero_le _, rfl, fun _ => by simp, fun h => absurd (Nat.zero_le _) h⟩
  case round =>
    obtain ⟨k, hk, rfl, hno, hno2⟩ := hrel
    have HN := Lib.hid hno
    have HM := Lib.hid hno2
    clear hno hno2
    by_cases hlt : k + sub.size ≤ s.size
    · have hi0 : (0 : Int) ≤ (k : Int) := by omega
      have hi1 : (k : Int) + (sub.size : Int) ≤ (s.size : Int) := by omega
      have hsl := slice_eq s k sub.size hlt
      have hcut : L (s.extract k (k + sub.size)) = ((L s).drop k).take (L sub).length := by rw [extract_L, L_length]; congr 1; omega
      go_wp2
      · have ht : ((s.extract k (k + sub.size)).toList == sub.toList) = true := by assumption
        rw [toList_L, toList_L, hcut, beq_iff_eq] at ht
        go_ret
        refine ⟨ret_int ?_, rfl⟩
        have hN := HN.out (by omega)
        rw [ixOf_hit _ _ ht] at hN
        rw [← hN]
        simp [ixInt]
      · have ht : ((s.extract k (k + sub.size)).toList == sub.toList) = false := by assumption
        rw [toList_L, toList_L, hcut, beq_eq_false_iff_ne] at ht
        go_round
        case rel =>
          refine ⟨k + 1, by omega, by go_num, fun hle => ?_, fun hle => ?_⟩
          · have hN := HN.out (by omega)
            rw [L_drop s k (by omega)] at hN ht
            rw [ixOf_miss _ _ _ ht] at hN
            rw [← hN]
            cases ixOf (L sub) ((L s).drop (k + 1)) with
            | none => rfl
            | some m => simp; omega
          · have hN := HN.out (by omega)
            have hke : k = s.size := by omega
            have hz : sub.size = 0 := by omega
            exfalso
            apply ht
            have h0 : L sub = [] := List.eq_nil_of_length_eq_zero (by rw [L_length]; exact hz)
            rw [h0]
            rfl
        case measure => simp [intOf]; omega
    · go_wp2
      go_ret
      refine ⟨ret_int ?_, rfl⟩
      by_cases hle : k ≤ s.size
      · have hN := HN.out hle
        rw [ixOf_short _ _ (by rw [List.length_drop, L_length, L_length]; omega)] at hN
        rw [← hN]
        rfl
      · rw [HM.out hle]
        rfl

/-- A text cut where another one stands first in it. -/
def cutOf (s sub : ByteArray) : Value := match ixOf (L sub) (L s) with
  | some n => .tuple #[.string (s.extract 0 n), .string (s.extract (n + sub.size) s.size), .bool true]
  | none => .tuple #[.string s, .string ⟨#[]⟩, .bool false]

theorem zzCut_c (s sub : ByteArray) (w : World) (hs : s.size ≤ 1099511627776) (hsub : sub.size ≤ 1099511627776) :
    Calls Tryd.prog 28 #[.string s, .string sub] w (Quiet (cutOf s sub) w) := by
  have H := Lib.hid (fun w => zzIndex_c s sub w hs hsub)
  cases hi : ixOf (L sub) (L s) with
  | none =>
    rw [hi] at H
    have E := Lib.hid (show cutOf s sub = .tuple #[.string s, .string ⟨#[]⟩, .bool false] by unfold cutOf; rw [hi])
    clear hi
    go_enter Tryd.func28, Tryd.ntmps28
    go_wp2_with fail
    refine (H.out _).mono ?_
    rintro e w1 ⟨rfl, rfl⟩
    unfold ixInt
    go_wp2_with fail
    go_ret3
    exact ⟨by rw [E.out]; rfl, 0, rfl⟩
  | some n =>
    rw [hi] at H
    have E := Lib.hid (show cutOf s sub = .tuple #[.string (s.extract 0 n), .string (s.extract (n + sub.size) s.size), .bool true] by unfold cutOf; rw [hi])
    have hb := (ixOf_bound _ _ _ hi).1
    rw [L_length, L_length] at hb
    have hw1 : IntKind.i64.wrap ((n : Int) + (sub.size : Int)) = (n : Int) + (sub.size : Int) := IntWalk.i64_in _ (by omega)
    have h0 : (0 : Int) ≤ (n : Int) := by omega
    have h1 : (0 : Int) ≤ (n : Int) + (sub.size : Int) := by omega
    have h2 : (n : Int) + (sub.size : Int) ≤ (s.size : Int) := by omega
    have h3 : (n : Int) ≤ (s.size : Int) := by omega
    have h4 : ((n : Int) + (sub.size : Int)).toNat = n + sub.size := by omega
    clear hi
    go_enter Tryd.func28, Tryd.ntmps28
    go_wp2_with fail
    refine (H.out _).mono ?_
    rintro e w1 ⟨rfl, rfl⟩
    unfold ixInt
    go_wp2_with fail
    go_quiet (fail)
    go_wp2
    go_ret3
    exact ⟨by rw [E.out]; rfl, _, rfl⟩
end Go.Proofs.YtglffpjobjpmpaaDoor
