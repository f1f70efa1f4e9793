/-
  THE WALK OF FnTwice: a name with two values is an error, but with the same one twice it is not; where the listed package-level variables lie as the program's text lays them.
-/
import Derived.Test.YteohjnebbndcoaaDoorParseI
namespace Go.Proofs.YteohjnebbndcoaaDoor
open Go.RowKit

theorem parse_both (x t tl v0 v1 name low v u : ByteArray) (er : Value) (w : World) (hx : L x = L t ++ L v0) (hv0 : L v0 = 59 :: 32 :: (L name ++ 61 :: (L v ++ L v1))) (hv1 : L v1 = 59 :: 32 :: (L low ++ 61 :: L u)) (hlow : L low = Lib.toLowerA (L name)) (htl : L tl = Lib.toLowerA (L t))
    (ht : TypeIs (L t)) (hn : isTok (L name) = true) (hv : isTok (L v) = true) (hu : isTok (L u) = true) (h42 : (42 : UInt8) ∉ L name) (hxs : x.size ≤ 1099511627776)
    (hW : Lib.WhiteTab 7 w) (hA : AscTab w) (hE : ErrsAt er w) :
    Calls Tryd.prog 14 #[.string x] w (ParseI (if (v.toList == u.toList) = true then 0 else 2) w) := by
  have hE' := hE
  obtain ⟨tp, a0, a1, c0, c1, t0, t1, e0, e1, h2, h3, h4, h5, h6⟩ := hE'
  have c := parse_c x t tl v0 v1 name low v u er w hx hv0 hv1 hlow htl ht hn hv hu h42 hxs hW hA h3 (lt_of_cell h3)
  cases hs : (v.toList == u.toList)
  · rw [if_neg (by decide)]
    rw [hs] at c
    refine parseI_err x er w hE (c.mono ?_)
    rintro e w' ⟨hb, ⟨h, _⟩ | ⟨_, h⟩⟩
    · cases h
    · exact ⟨hb, h⟩
  · rw [if_pos rfl]
    rw [hs] at c
    refine parseI_ok x tl w (c.mono ?_)
    rintro e w' ⟨hb, ⟨_, h⟩ | ⟨h, _⟩⟩
    · exact ⟨hb, h⟩
    · cases h

set_option maxHeartbeats 2000000 in
set_option maxRecDepth 100000 in
theorem twice_big (t n v u : ByteArray) (w : World) (mt : t.size ≤ maxLen) (mn : n.size ≤ maxLen) (mv : v.size ≤ maxLen) (mu : u.size ≤ maxLen) (h : (16777216 : Int) < (t.size : Int) ∨ (16777216 : Int) < (n.size : Int) ∨ (16777216 : Int) < (v.size : Int) ∨ (16777216 : Int) < (u.size : Int)) :
    Calls Tryd.prog 4 #[.string t, .string n, .string v, .string u] w (Makes (.bool true) w) := by
  unfold maxLen at mt mn mv mu
  by_cases h0 : (16777216 : Int) < (t.size : Int)
  · clear h
    go_enter Tryd.func4, Tryd.ntmps4
    go_wp2
    all_goals
      go_ret
      exact ⟨rfl, Below.refl _ _⟩
  have d0 : decide ((16777216 : Int) < (t.size : Int)) = false := by simpa using h0
  have e0 : decide ((2147483647 : Int) < (t.size : Int)) = false := by simp; omega
  by_cases h1 : (16777216 : Int) < (n.size : Int)
  · clear h
    go_enter Tryd.func4, Tryd.ntmps4
    go_wp2
    all_goals
      go_ret
      exact ⟨rfl, Below.refl _ _⟩
  have d1 : decide ((16777216 : Int) < (n.size : Int)) = false := by simpa using h1
  have e1 : decide ((2147483647 : Int) < (n.size : Int)) = false := by simp; omega
  by_cases h2 : (16777216 : Int) < (v.size : Int)
  · clear h
    go_enter Tryd.func4, Tryd.ntmps4
    go_wp2
    all_goals
      go_ret
      exact ⟨rfl, Below.refl _ _⟩
  have d2 : decide ((16777216 : Int) < (v.size : Int)) = false := by simpa using h2
  have e2 : decide ((2147483647 : Int) < (v.size : Int)) = false := by simp; omega
  have h3 : (16777216 : Int) < (u.size : Int) := by omega
  clear h
  go_enter Tryd.func4, Tryd.ntmps4
  go_wp2
  all_goals
    go_ret
    exact ⟨rfl, Below.refl _ _⟩

/-- The tests of a length, decided. -/
theorem small_tests (s : ByteArray) (h : ¬ (16777216 : Int) < (s.size : Int)) : decide ((16777216 : Int) < (s.size : Int)) = false ∧ decide ((2147483647 : Int) < (s.size : Int)) = false := by
  constructor
  · simpa using h
  · simp; omega

set_option maxHeartbeats 1000000 in
set_option maxRecDepth 100000 in
theorem twice_not (k : Fin 4) (t n v u : ByteArray) (w : World) (ht : ¬ (16777216 : Int) < (t.size : Int)) (hn : ¬ (16777216 : Int) < (n.size : Int)) (hv : ¬ (16777216 : Int) < (v.size : Int)) (hu : ¬ (16777216 : Int) < (u.size : Int))
    (c0 : if k = 0 then ¬ TypeIs (L t) else TypeIs (L t)) (c1 : k = 1 → isTok (L n) = false) (c1' : 1 < k → isTok (L n) = true) (c2 : k = 2 → isTok (L v) = false) (c2' : 2 < k → isTok (L v) = true) (c3 : k = 3 → isTok (L u) = false) :
    Calls Tryd.prog 4 #[.string t, .string n, .string v, .string u] w (Makes (.bool true) w) := by
  obtain ⟨d0, e0⟩ := small_tests t ht
  obtain ⟨d1, e1⟩ := small_tests n hn
  obtain ⟨d2, e2⟩ := small_tests v hv
  obtain ⟨d3, e3⟩ := small_tests u hu
  have TT := Lib.hid fun (b : Bool) (h : b = isTok (L n)) (w : World) => (by have c := specIsToken_c n w (by omega); rw [← h] at c; exact c : Calls Tryd.prog 6 #[.string n] w (Pure (.bool b) w))
  have TV := Lib.hid fun (b : Bool) (h : b = isTok (L v)) (w : World) => (by have c := specIsToken_c v w (by omega); rw [← h] at c; exact c : Calls Tryd.prog 6 #[.string v] w (Pure (.bool b) w))
  have TU := Lib.hid fun (b : Bool) (h : b = isTok (L u)) (w : World) => (by have c := specIsToken_c u w (by omega); rw [← h] at c; exact c : Calls Tryd.prog 6 #[.string u] w (Pure (.bool b) w))
  match k, c0, c1, c1', c2, c2', c3 with
  | 0, c0, _, _, _, _, _ =>
    have HC := Lib.hid fun w => type_no t w (by omega) c0
    go_enter Tryd.func4, Tryd.ntmps4
    go_wp2_with fail
    refine (HC.out _).mono ?_
    rintro e w1 ⟨rfl, rfl⟩
    go_wp2_with fail
    go_ret
    exact ⟨rfl, Below.refl _ _⟩
  | 1, c0, c1, _, _, _, _ =>
    have HC := Lib.hid fun w => type_yes t w (by omega) c0
    have H1 := Lib.hid (TT.out false (c1 rfl).symm)
    go_enter Tryd.func4, Tryd.ntmps4
    go_wp2_with fail
    refine (HC.out _).mono ?_
    rintro e w1 ⟨rfl, rfl⟩
    go_wp2_with fail
    refine (H1.out _).mono ?_
    rintro e w1 ⟨rfl, rfl⟩
    go_wp2_with fail
    go_ret
    exact ⟨rfl, Below.refl _ _⟩
  | 2, c0, _, c1', c2, _, _ =>
    have HC := Lib.hid fun w => type_yes t w (by omega) c0
    have H1 := Lib.hid (TT.out true (c1' (by decide)).symm)
    have H2 := Lib.hid (TV.out false (c2 rfl).symm)
    go_enter Tryd.func4, Tryd.ntmps4
    go_wp2_with fail
    refine (HC.out _).mono ?_
    rintro e w1 ⟨rfl, rfl⟩
    go_wp2_with fail
    refine (H1.out _).mono ?_
    rintro e w1 ⟨rfl, rfl⟩
    go_wp2_with fail
    refine (H2.out _).mono ?_
    rintro e w1 ⟨rfl, rfl⟩
    go_wp2_with fail
    go_ret
    exact ⟨rfl, Below.refl _ _⟩
  | 3, c0, _, c1', _, c2', c3 =>
    have HC := Lib.hid fun w => type_yes t w (by omega) c0
    have H1 := Lib.hid (TT.out true (c1' (by decide)).symm)
    have H2 := Lib.hid (TV.out true (c2' (by decide)).symm)
    have H3 := Lib.hid (TU.out false (c3 rfl).symm)
    go_enter Tryd.func4, Tryd.ntmps4
    go_wp2_with fail
    refine (HC.out _).mono ?_
    rintro e w1 ⟨rfl, rfl⟩
    go_wp2_with fail
    refine (H1.out _).mono ?_
    rintro e w1 ⟨rfl, rfl⟩
    go_wp2_with fail
    refine (H2.out _).mono ?_
    rintro e w1 ⟨rfl, rfl⟩
    go_wp2_with fail
    refine (H3.out _).mono ?_
    rintro e w1 ⟨rfl, rfl⟩
    go_wp2_with fail
    go_ret
    exact ⟨rfl, Below.refl _ _⟩

set_option maxHeartbeats 2000000 in
set_option maxRecDepth 100000 in
theorem twice_main (t n v u : ByteArray) (er : Value) (w : World) (ht : ¬ (16777216 : Int) < (t.size : Int)) (hn : ¬ (16777216 : Int) < (n.size : Int)) (hv : ¬ (16777216 : Int) < (v.size : Int)) (hu : ¬ (16777216 : Int) < (u.size : Int))
    (c0 : TypeIs (L t)) (c1 : isTok (L n) = true) (c2 : isTok (L v) = true) (c3 : isTok (L u) = true) (hW : Lib.WhiteTab 7 w) (hA : AscTab w) (hE : ErrsAt er w) :
    Calls Tryd.prog 4 #[.string t, .string n, .string v, .string u] w (Makes (.bool true) w) := by
  obtain ⟨d0, e0⟩ := small_tests t ht
  obtain ⟨d1, e1⟩ := small_tests n hn
  obtain ⟨d2, e2⟩ := small_tests v hv
  obtain ⟨d3, e3⟩ := small_tests u hu
  obtain ⟨low, hlow, hlows⟩ := text_of (Lib.toLowerA (L n))
  have hls : low.size ≤ 16777216 := by rw [hlows]; simp only [Lib.toLowerA, List.length_map, L_length]; omega
  have HLo := Lib.hid (show (⟨(Lib.toLowerA (L n)).toArray⟩ : ByteArray) = low from L_inj (by rw [L_mk, hlow]))
  have HLC := Lib.hid fun w => lower_c n w (by omega)
  have HC := Lib.hid fun w => type_yes t w (by omega) c0
  have H1 := Lib.hid fun w => (by have c := specIsToken_c n w (by omega); rw [c1] at c; exact c : Calls Tryd.prog 6 #[.string n] w (Pure (.bool true) w))
  have H2 := Lib.hid fun w => (by have c := specIsToken_c v w (by omega); rw [c2] at c; exact c : Calls Tryd.prog 6 #[.string v] w (Pure (.bool true) w))
  have H3 := Lib.hid fun w => (by have c := specIsToken_c u w (by omega); rw [c3] at c; exact c : Calls Tryd.prog 6 #[.string u] w (Pure (.bool true) w))
  have HP := Lib.hid (show (42 : UInt8) ∉ L n → ∀ w1, Below w.heap.size w w1 → Calls Tryd.prog 14 #[.string (t ++ ⟨#[59, 32]⟩ ++ n ++ ⟨#[61]⟩ ++ v ++ ⟨#[59, 32]⟩ ++ low ++ ⟨#[61]⟩ ++ u)] w1 (ParseI (if (v.toList == u.toList) = true then 0 else 2) w1) from fun h42 w1 hb => by
    obtain ⟨v1, hv1, _⟩ := text_of (59 :: 32 :: (L low ++ 61 :: L u))
    obtain ⟨v0, hv0, _⟩ := text_of (59 :: 32 :: (L n ++ 61 :: (L v ++ L v1)))
    obtain ⟨tl, htl, _⟩ := text_of (Lib.toLowerA (L t))
    refine parse_both _ t tl v0 v1 n low v u er w1 ?_ hv0 hv1 hlow htl c0 c1 c2 c3 h42 ?_ (WhiteTab_below hW hb) (hA.below hb) (hE.below hb)
    · rw [hv0, hv1]
      simp only [append_L]
      show L t ++ [59, 32] ++ L n ++ [61] ++ L v ++ [59, 32] ++ L low ++ [61] ++ L u = _
      simp
    · simp only [ByteArray.size_append]
      show t.size + 2 + n.size + 1 + v.size + 2 + low.size + 1 + u.size ≤ _
      omega)
  clear c0 c1 c2 c3 hW hA hE hlow hlows
  go_enter Tryd.func4, Tryd.ntmps4
  go_wp2_with fail
  refine (HC.out _).mono ?_
  rintro e w1 ⟨rfl, rfl⟩
  go_wp2_with fail
  refine (H1.out _).mono ?_
  rintro e w1 ⟨rfl, rfl⟩
  go_wp2_with fail
  refine (H2.out _).mono ?_
  rintro e w1 ⟨rfl, rfl⟩
  go_wp2_with fail
  refine (H3.out _).mono ?_
  rintro e w1 ⟨rfl, rfl⟩
  go_wp2_with fail
  go_loop [9] (fun i => ∃ k : Nat, k ≤ n.size ∧ i = .int .i64 k ∧ (42 : UInt8) ∉ (L n).take k) (fun i => n.size - (intOf i).toNat)
  case atStart => exact ⟨0, Nat.zero_le _, rfl, by simp⟩
  case round =>
    obtain ⟨k, hk, rfl, hno⟩ := hrel
    have HN := Lib.hid hno
    clear hno
    by_cases hlt : k < n.size
    · by_cases c42 : n[k] = 42
      · have t42 := beq_yes n[k] 42 42 rfl c42
        clear c42
        go_wp2_with fail
        go_ret
        exact ⟨rfl, Below.refl _ _⟩
      · have t42 := beq_no n[k] 42 42 rfl c42
        have HS := Lib.hid (show (42 : UInt8) ∉ (L n).take (k + 1) by
          have hd : (L n)[k]? = some n[k] := by unfold L; simp [hlt]; rfl
          rw [List.take_add_one, hd]
          intro h
          rcases List.mem_append.1 h with h | h
          · exact HN.out h
          · simp at h; exact c42 h.symm)
        clear c42
        go_wp2_with fail
        go_round
        case rel => exact ⟨k + 1, by omega, by go_num, HS.out⟩
        case measure => simp [intOf]; omega
    · have h42 : (42 : UInt8) ∉ L n := by
        have h := HN.out
        rw [List.take_of_length_le (by rw [L_length]; omega)] at h
        exact h
      have HPP := Lib.hid (HP.out h42)
      clear h42
      cases hs : (v.toList == u.toList)
      · have hne : (!v.toList == u.toList) = true := by rw [hs]; rfl
        have HS := Lib.hid hs
        have HPF : Hid (∀ w1, Below w.heap.size w w1 → Calls Tryd.prog 14 #[.string (t ++ ⟨#[59, 32]⟩ ++ n ++ ⟨#[61]⟩ ++ v ++ ⟨#[59, 32]⟩ ++ low ++ ⟨#[61]⟩ ++ u)] w1 (ParseI 2 w1)) := Lib.hid fun w1 hb => by
          have c := HPP.out w1 hb
          rw [if_neg (by rw [hs]; decide)] at c
          exact c
        go_wp2_with fail
        refine (HLC.out _).mono ?_
        rintro e w2 ⟨rfl, hb2⟩
        rw [HLo.out]
        go_wp2_with fail
        refine (HPF.out _ hb2).mono ?_
        rintro e w3 ⟨hb3, a, b, rfl⟩
        go_wp2_with fail
        go_ret
        exact ⟨rfl, hb2.trans (hb3.mono hb2.size)⟩
      · have hne : (!v.toList == u.toList) = false := by rw [hs]; rfl
        have HPF : Hid (∀ w1, Below w.heap.size w w1 → Calls Tryd.prog 14 #[.string (t ++ ⟨#[59, 32]⟩ ++ n ++ ⟨#[61]⟩ ++ v ++ ⟨#[59, 32]⟩ ++ low ++ ⟨#[61]⟩ ++ u)] w1 (ParseI 0 w1)) := Lib.hid fun w1 hb => by
          have c := HPP.out w1 hb
          rw [if_pos hs] at c
          exact c
        go_wp2_with fail
        refine (HLC.out _).mono ?_
        rintro e w2 ⟨rfl, hb2⟩
        rw [HLo.out]
        go_wp2_with fail
        refine (HPF.out _ hb2).mono ?_
        rintro e w3 ⟨hb3, a, b, rfl⟩
        go_wp2_with fail
        go_ret
        exact ⟨rfl, hb2.trans (hb3.mono hb2.size)⟩

theorem fnTwice_walk (t n v u : ByteArray) (er : Value) (w : World) (mt : t.size ≤ maxLen) (mn : n.size ≤ maxLen) (mv : v.size ≤ maxLen) (mu : u.size ≤ maxLen) (hW : Lib.WhiteTab 7 w) (hA : AscTab w) (hE : ErrsAt er w) :
    Calls Tryd.prog 4 #[.string t, .string n, .string v, .string u] w (Makes (.bool true) w) := by
  by_cases h : (16777216 : Int) < (t.size : Int) ∨ (16777216 : Int) < (n.size : Int) ∨ (16777216 : Int) < (v.size : Int) ∨ (16777216 : Int) < (u.size : Int)
  · exact twice_big t n v u w mt mn mv mu h
  have ht : ¬ (16777216 : Int) < (t.size : Int) := fun e => h (.inl e)
  have hn : ¬ (16777216 : Int) < (n.size : Int) := fun e => h (.inr (.inl e))
  have hv : ¬ (16777216 : Int) < (v.size : Int) := fun e => h (.inr (.inr (.inl e)))
  have hu : ¬ (16777216 : Int) < (u.size : Int) := fun e => h (.inr (.inr (.inr e)))
  by_cases c0 : TypeIs (L t)
  · cases c1 : isTok (L n)
    · exact twice_not 1 t n v u w ht hn hv hu (by rw [if_neg (by decide)]; exact c0) (fun _ => c1) (fun h => absurd h (by decide)) (fun h => absurd h (by decide)) (fun h => absurd h (by decide)) (fun h => absurd h (by decide))
    cases c2 : isTok (L v)
    · exact twice_not 2 t n v u w ht hn hv hu (by rw [if_neg (by decide)]; exact c0) (fun h => absurd h (by decide)) (fun _ => c1) (fun _ => c2) (fun h => absurd h (by decide)) (fun h => absurd h (by decide))
    cases c3 : isTok (L u)
    · exact twice_not 3 t n v u w ht hn hv hu (by rw [if_neg (by decide)]; exact c0) (fun h => absurd h (by decide)) (fun _ => c1) (fun h => absurd h (by decide)) (fun _ => c2) (fun _ => c3)
    exact twice_main t n v u er w ht hn hv hu c0 c1 c2 c3 hW hA hE
  · exact twice_not 0 t n v u w ht hn hv hu (by rw [if_pos rfl]; exact c0) (fun h => absurd h (by decide)) (fun h => absurd h (by decide)) (fun h => absurd h (by decide)) (fun h => absurd h (by decide)) (fun h => absurd h (by decide))
end Go.Proofs.YteohjnebbndcoaaDoor
