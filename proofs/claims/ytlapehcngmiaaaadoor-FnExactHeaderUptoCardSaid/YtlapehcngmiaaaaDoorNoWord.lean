/-
  THE WALK OF FnNoWord: a text without =? is decoded as it stands; for every text.
-/
import Derived.Test.YtlapehcngmiaaaaDoorCut
namespace Go.Proofs.YtlapehcngmiaaaaDoor
open Go.RowKit

/-- Has the text =? in it? -/
def starts : List UInt8 → Bool
  | [] => false
  | c :: r => if c = 61 ∧ r.take 1 = [63] then true else starts r
theorem starts_ix (l : List UInt8) : starts l = false → ixOf [61, 63] l = none := by
  induction l with
  | nil => intro _; rfl
  | cons c r ih =>
    intro h
    rw [starts] at h
    split at h
    · cases h
    · rename_i hn
      rw [ixOf_miss, ih h]
      · rfl
      · intro e
        apply hn
        cases r with
        | nil => simp at e
        | cons d t => simpa using e

theorem starts_c (s : ByteArray) (w : World) (hs : s.size ≤ 4611686018427387904) : Calls Tryd.prog 7 #[.string s] w (Pure (.bool (starts (L s))) w) := by
  go_enter Tryd.func7, Tryd.ntmps7
  go_wp2
  go_loop [3] (fun i => ∃ k : Nat, k ≤ s.size ∧ i = .int .i64 k ∧ starts ((L s).drop k) = starts (L s)) (fun i => s.size - (intOf i).toNat)
  case atStart => exact ⟨0, Nat.zero_le _, rfl, rfl⟩
  case round =>
    obtain ⟨k, hk, rfl, hno⟩ := hrel
    have HN := Lib.hid hno
    clear hno
    by_cases hlt : k + 1 < s.size
    · have hd := L_drop s k (by omega)
      have hd1 := L_drop s (k + 1) hlt
      have hi1 : (k : Int) + 1 < (s.size : Int) := by omega
      by_cases c61 : s[k] = 61
      · have t61 : ((s[k].toNat : Int) == 61) = true := beq_yes _ 61 _ rfl c61
        by_cases c63 : s[k + 1] = 63
        · have t63 : ((s[k + 1].toNat : Int) == 63) = true := beq_yes _ 63 _ rfl c63
          have hst : starts (L s) = true := by rw [← HN.out, hd, starts, if_pos ⟨c61, by rw [hd1, c63]; rfl⟩]
          have HS := Lib.hid hst
          clear hst hd hd1 c61 c63
          go_wp2
          go_ret
          exact ⟨ret_bool HS.out.symm, rfl⟩
        · have t63 : ((s[k + 1].toNat : Int) == 63) = false := beq_no _ 63 _ rfl c63
          have hst : starts ((L s).drop (k + 1)) = starts (L s) := by rw [← HN.out, hd, starts, if_neg (by rintro ⟨_, e⟩; rw [hd1] at e; exact c63 (by simpa using e))]
          have HS := Lib.hid hst
          clear hst hd hd1 c61 c63
          go_wp2
          go_round
          case rel => exact ⟨k + 1, by omega, by go_num, HS.out⟩
          case measure => simp [intOf]; omega
      · have t61 : ((s[k].toNat : Int) == 61) = false := beq_no _ 61 _ rfl c61
        have hst : starts ((L s).drop (k + 1)) = starts (L s) := by rw [← HN.out, hd, starts, if_neg (fun e => c61 e.1)]
        have HS := Lib.hid hst
        clear hst hd hd1 c61
        go_wp2
        go_round
        case rel => exact ⟨k + 1, by omega, by go_num, HS.out⟩
        case measure => simp [intOf]; omega
    · have hst : starts (L s) = false := by
        rw [← HN.out]
        by_cases h : k < s.size
        · rw [L_drop s k h, L_drop_end s (k + 1) (by omega), starts, if_neg (by simp)]
          rfl
        · rw [L_drop_end s k h]
          rfl
      have HS := Lib.hid hst
      clear hst
      go_wp2
      go_ret
      exact ⟨ret_bool HS.out.symm, rfl⟩

theorem decodeHeader_plain (s : ByteArray) (w : World) (a : Addr) (hs : s.size ≤ 1099511627776) (h : starts (L s) = false) :
    Calls Tryd.prog 19 #[.pointer (some a), .string s] w (Pure (.tuple #[.string s, .nilIface]) w) := by
  have H : Hid (∀ (sub : ByteArray) (w : World), L sub = [61, 63] → sub.size ≤ 1099511627776 → Calls Tryd.prog 29 #[.string s, .string sub] w (Pure (.int .i64 (-1)) w)) := Lib.hid fun sub w e hsub => by
    have c := zzIndex_c s sub w hs hsub
    rw [e, starts_ix _ h] at c
    exact c
  go_enter Tryd.func19, Tryd.ntmps19
  go_wp2_with fail
  refine (H.out _ _ rfl (by decide)).mono ?_
  rintro e w1 ⟨rfl, rfl⟩
  go_wp2_with fail
  go_ret2
  exact ⟨rfl, rfl⟩

theorem implDecodeHeader_plain (s : ByteArray) (w : World) (hs : s.size ≤ 1099511627776) (h : starts (L s) = false) :
    Calls Tryd.prog 8 #[.string s] w (Makes (.tuple #[.string s, .bool true]) w) := by
  have H := Lib.hid (fun w a => decodeHeader_plain s w a hs h)
  go_enter Tryd.func8, Tryd.ntmps8
  go_wp2_with fail
  refine (H.out _ _).mono ?_
  rintro e w1 ⟨rfl, rfl⟩
  go_wp2_with fail
  go_quiet (fail)
  go_wp2
  go_ret2
  exact ⟨rfl, below_drewN ((Below.refl _ _).alloc (Nat.le_refl _) _) _⟩

theorem fnNoWord_walk (s : ByteArray) (w : World) (m : s.size ≤ maxLen) : Calls Tryd.prog 3 #[.string s] w (Makes (.bool true) w) := by
  unfold maxLen at m
  by_cases h1 : (2147483647 : Int) < (s.size : Int)
  · go_enter Tryd.func3, Tryd.ntmps3
    go_wp2_with fail
    go_ret
    exact ⟨rfl, Below.refl _ _⟩
  by_cases h2 : (16777216 : Int) < (s.size : Int)
  · go_enter Tryd.func3, Tryd.ntmps3
    go_wp2_with fail
    go_ret
    exact ⟨rfl, Below.refl _ _⟩
  cases h : starts (L s)
  · have H := Lib.hid (fun w => implDecodeHeader_plain s w (by omega) h)
    go_enter Tryd.func3, Tryd.ntmps3
    go_wp2_with fail
    refine (starts_c s _ (by omega)).mono ?_
    rintro e w1 ⟨rfl, rfl⟩
    rw [h]
    go_wp2_with fail
    refine (H.out _).mono ?_
    rintro e w1 ⟨rfl, hb⟩
    go_wp2_with fail
    go_ret
    exact ⟨rfl, hb⟩
  · go_enter Tryd.func3, Tryd.ntmps3
    go_wp2_with fail
    refine (starts_c s _ (by omega)).mono ?_
    rintro e w1 ⟨rfl, rfl⟩
    rw [h]
    go_wp2_with fail
    go_ret
    exact ⟨rfl, Below.refl _ _⟩
end Go.Proofs.YtlapehcngmiaaaaDoor
