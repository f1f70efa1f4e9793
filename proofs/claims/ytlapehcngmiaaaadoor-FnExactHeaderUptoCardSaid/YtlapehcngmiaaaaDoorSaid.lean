/-
  CONTRACTS OF spec's Latin AND Said: what bytes in a charset say; for texts of at most 2 to the 40th bytes, where unicode/utf8's tables lie as the program's text lays them.
-/
import Derived.Test.YtlapehcngmiaaaaDoorLow
import Derived.Test.YtlapehcngmiaaaaDoorShelf
import Derived.Lib.Fold
import Derived.Lib.RuneBytes
namespace Go.Proofs.YtlapehcngmiaaaaDoor
open Go.RowKit

/-- Bytes of ISO-8859-1 as a text. -/
def latin (l : List UInt8) : List UInt8 := l.flatMap fun c => Lib.encodeRune (c.toNat : Int)
theorem encodeRune_len (r : Int) : (Lib.encodeRune r).length ≤ 4 := by rw [← Lib.runeCells_length]; exact (Lib.runeCells_le r).2
theorem latin_cons (c : UInt8) (r : List UInt8) : latin (c :: r) = Lib.encodeRune (c.toNat : Int) ++ latin r := rfl
theorem latin_len (l : List UInt8) : (latin l).length ≤ 4 * l.length := by
  induction l with
  | nil => simp [latin]
  | cons c r ih => have := encodeRune_len (c.toNat : Int); rw [latin_cons, List.length_append, List.length_cons]; omega

theorem appendRune_c (B : Nat) (v : Value) (l : List UInt8) (r : Int) (w : World) (h0 : -2147483648 ≤ r) (h1 : r ≤ 2147483647) (hown : Own B v l w) (hlen : l.length + 4 ≤ 140737488355328) :
    Calls Tryd.prog 36 #[v, .int .i32 r] w fun e w' => ∃ v', e = .returned v' ∧ Own B v' (l ++ Lib.encodeRune r) w' ∧ Below B w w' ∧ w.heap.size ≤ w'.heap.size := by
  refine (Tryd.utf8_AppendRune_plain B v l.length (Lib.byteCells l) r h0 h1 w hown.1 hlen hown.2).mono ?_
  rintro e w' ⟨v', rfl, ho, o, hg⟩
  have hsz := hg.size
  simp only [World.size_alloc] at hsz
  refine ⟨v', rfl, ⟨?_, by have := hown.2; omega⟩, ((Below.refl B w).alloc hown.2 _).grown hg (by have := hown.2; simp; omega) (fun k hk => (hown.1.lt k hk).1), by omega⟩
  rw [byteCells_append, Lib.byteCells_encodeRune, List.length_append, ← Lib.runeCells_length]
  exact ho

set_option maxRecDepth 100000 in
theorem latin_c (s : ByteArray) (w : World) (hs : s.size ≤ 1099511627776) : Calls Tryd.prog 21 #[.string s] w (Makes (.string ⟨(latin (L s)).toArray⟩) w) := by
  go_enter Tryd.func21, Tryd.ntmps21
  go_wp2
  go_loopw [3, 4] (fun v i wr => ∃ (k : Nat) (acc : List UInt8), k ≤ s.size ∧ i = .int .i64 k ∧ acc ++ latin ((L s).drop k) = latin (L s) ∧ acc.length ≤ 4 * k ∧ Own w.heap.size v acc wr ∧ Below w.heap.size w wr) (fun _ i _ => s.size - (intOf i).toNat)
  case atStart => exact ⟨0, [], Nat.zero_le _, rfl, rfl, by simp, Own.nil w, Below.refl _ _⟩
  case round =>
    obtain ⟨k, acc, hk, rfl, hno, hal, hown, hbel⟩ := hrel
    have HN := Lib.hid hno
    clear hno
    by_cases hlt : k < s.size
    · have hd := L_drop s k hlt
      have hb := s[k].toNat_lt
      have he := encodeRune_len (s[k].toNat : Int)
      have HS := Lib.hid (show acc ++ Lib.encodeRune (s[k].toNat : Int) ++ latin ((L s).drop (k + 1)) = latin (L s) by rw [← HN.out, hd, latin_cons]; simp)
      clear hd
      go_wp2_with (go_at_call 36; refine (appendRune_c _ _ acc _ _ (by omega) (by omega) hown (by omega)).mono ?_; rintro e w1 ⟨v1, rfl, hown1, hb1, hz1⟩)
      go_roundw
      case rel => exact ⟨k + 1, _, by omega, by go_num, HS.out, by simp; omega, hown1, hbel.trans hb1⟩
      case measure => simp [intOf]; omega
    · have hend : acc = latin (L s) := by
        have h := HN.out
        rw [L_drop_end s k hlt] at h
        simpa [latin] using h
      have HE := Lib.hid hend
      clear hend
      have hcv := own_string hown
      go_wp2_with fail
      go_ret
      exact ⟨by rw [← HE.out]; rfl, hbel⟩

theorem charsN_cases (l : List UInt8) : charsN l = 1 ∨ charsN l = 2 ∨ charsN l = 3 ∨ charsN l = 0 := by
  unfold charsN
  split
  · simp
  · split
    · simp
    · split <;> simp
/-- What bytes in a charset say, and whether it is told. -/
def saidT (n : Int) (s : ByteArray) : Value :=
  if n = 1 then .tuple #[.string s, .bool (Lib.validD s.data.toList)] else if n = 2 then .tuple #[.string ⟨(latin (L s)).toArray⟩, .bool true] else if n = 3 then .tuple #[.string s, .bool ((L s).all asciiB)] else .tuple #[.string ⟨#[]⟩, .bool false]

set_option maxRecDepth 100000 in
theorem said_c (c s : ByteArray) (w : World) (hc : c.size ≤ 1099511627776) (hs : s.size ≤ 1099511627776) (hT : Lib.Utf8Tabs 0 1 w) :
    Calls Tryd.prog 9 #[.string c, .string s] w (Makes (saidT (charsN (L c)) s) w) := by
  have H := Lib.hid (chars_c c w hc)
  have HT := Lib.hid hT
  obtain ⟨n, hn⟩ : ∃ n, n = charsN (L c) := ⟨_, rfl⟩
  have hcase : n = 1 ∨ n = 2 ∨ n = 3 ∨ n = 0 := by rw [hn]; exact charsN_cases _
  rw [← hn] at H ⊢
  clear hn hT
  rcases hcase with rfl | rfl | rfl | rfl
  · have HE := Lib.hid (show saidT 1 s = .tuple #[.string s, .bool (Lib.validD s.data.toList)] by unfold saidT; rw [if_pos rfl])
    rw [HE.out]
    clear HE
    go_enter Tryd.func9, Tryd.ntmps9
    go_wp2_with fail
    refine (H.out).mono ?_
    rintro e w1 ⟨rfl, hb1⟩
    go_wp2_with fail
    refine (Tryd.utf8_ValidString s w1 (by omega) (Utf8Tabs_below HT.out hb1)).mono ?_
    rintro e w2 ⟨rfl, hb2⟩
    go_wp2_with fail
    go_ret2
    exact ⟨rfl, hb1.trans (hb2.mono hb1.size)⟩
  · have HE := Lib.hid (show saidT 2 s = .tuple #[.string ⟨(latin (L s)).toArray⟩, .bool true] by unfold saidT; rw [if_neg (by decide), if_pos rfl])
    rw [HE.out]
    clear HE
    go_enter Tryd.func9, Tryd.ntmps9
    go_wp2_with fail
    refine (H.out).mono ?_
    rintro e w1 ⟨rfl, hb1⟩
    go_wp2_with fail
    refine (latin_c s w1 hs).mono ?_
    rintro e w2 ⟨rfl, hb2⟩
    go_wp2_with fail
    go_ret2
    exact ⟨rfl, hb1.trans (hb2.mono hb1.size)⟩
  · have HE := Lib.hid (show saidT 3 s = .tuple #[.string s, .bool ((L s).all asciiB)] by unfold saidT; rw [if_neg (by decide), if_neg (by decide), if_pos rfl])
    rw [HE.out]
    clear HE
    go_enter Tryd.func9, Tryd.ntmps9
    go_wp2_with fail
    refine (H.out).mono ?_
    rintro e w1 ⟨rfl, hb1⟩
    go_wp2_with fail
    refine (ascii_c s w1 hs).mono ?_
    rintro e w2 ⟨rfl, rfl⟩
    go_wp2_with fail
    go_ret2
    exact ⟨rfl, hb1⟩
  · have HE := Lib.hid (show saidT 0 s = .tuple #[.string ⟨#[]⟩, .bool false] by unfold saidT; rw [if_neg (by decide), if_neg (by decide), if_neg (by decide)])
    rw [HE.out]
    clear HE
    go_enter Tryd.func9, Tryd.ntmps9
    go_wp2_with fail
    refine (H.out).mono ?_
    rintro e w1 ⟨rfl, hb1⟩
    go_wp2_with fail
    go_ret2
    exact ⟨rfl, hb1⟩

/-! ### strings.EqualFold on ASCII -/
theorem lowerN (c : UInt8) : (Lib.lowerB c).toNat = if 65 ≤ c.toNat ∧ c.toNat ≤ 90 then c.toNat + 32 else c.toNat := by
  cases hu : Lib.isUpperB c
  · rw [Lib.lowerB_of_not c hu]
    rw [Lib.isUpperB_int] at hu
    simp only [Bool.and_eq_false_iff, decide_eq_false_iff_not] at hu
    rw [if_neg (by omega)]
  · have hi := Lib.lowerB_int c hu
    rw [Lib.isUpperB_int, Bool.and_eq_true, decide_eq_true_eq, decide_eq_true_eq] at hu
    rw [if_pos (by omega)]
    omega
theorem fold_lower (x y : UInt8) : Lib.foldEq x y = (Lib.lowerB x == Lib.lowerB y) := by
  have hx := lowerN x
  have hy := lowerN y
  rw [Bool.eq_iff_iff]
  unfold Lib.foldEq
  rw [decide_eq_true_iff, beq_iff_eq, ← UInt8.toNat_inj, hx, hy]
  split <;> split <;> omega
theorem equalFold_lower (a b : List UInt8) : Lib.equalFold a b = decide (Lib.toLowerA a = Lib.toLowerA b) := by
  induction a generalizing b with
  | nil => cases b <;> simp [Lib.equalFold, Lib.toLowerA]
  | cons x a ih =>
    cases b with
    | nil => simp [Lib.equalFold, Lib.toLowerA]
    | cons y b =>
      have h := ih b
      unfold Lib.toLowerA at h ⊢
      rw [Lib.equalFold, h, fold_lower, Bool.eq_iff_iff]
      simp
theorem lower_ascii : ∀ x : Fin 256, asciiB (Lib.lowerB (UInt8.ofNat x.val)) = asciiB (UInt8.ofNat x.val) := by decide +kernel
theorem toLower_ascii (l : List UInt8) : (Lib.toLowerA l).all asciiB = l.all asciiB := by
  have e : ∀ x, asciiB (Lib.lowerB x) = asciiB x := fun x => by
    have := lower_ascii ⟨x.toNat, x.toNat_lt⟩
    simpa only [UInt8.ofNat_toNat] using this
  unfold Lib.toLowerA
  induction l with
  | nil => rfl
  | cons c r ih => rw [List.map_cons, List.all_cons, List.all_cons, e, ih]
theorem charsN_ascii (l : List UInt8) (h : charsN l ≠ 0) : l.all asciiB = true := by
  rw [← toLower_ascii]
  unfold charsN at h
  split at h
  · next e => rw [e]; decide
  · split at h
    · next e => rw [e]; decide
    · split at h
      · next e => rw [e]; decide
      · exact absurd rfl h
theorem equalFold_c (a b : ByteArray) (w : World) (h : a.size < 4294967281) (ha : (L a).all asciiB = true) (hb : (L b).all asciiB = true) :
    Calls Tryd.prog 45 #[.string a, .string b] w (Pure (.bool (decide (Lib.toLowerA (L a) = Lib.toLowerA (L b)))) w) := by
  have key : ∀ (l : List UInt8), l.all asciiB = true → ∀ (j : Nat) (x : UInt8), l[j]? = some x → x.toNat < 128 := fun l hl j x hj => by
    have := List.all_eq_true.1 hl x (List.mem_of_getElem? hj)
    have := of_decide_eq_true this
    omega
  have e2 : Lib.equalFold a.data.toList b.data.toList = decide (Lib.toLowerA (L a) = Lib.toLowerA (L b)) := equalFold_lower (L a) (L b)
  have c := Tryd.strings_EqualFold a b w h (key _ ha) (key _ hb)
  rw [e2] at c
  exact c.mono fun e w' hh => ⟨hh.1, hh.2.symm⟩
end Go.Proofs.YtlapehcngmiaaaaDoor
