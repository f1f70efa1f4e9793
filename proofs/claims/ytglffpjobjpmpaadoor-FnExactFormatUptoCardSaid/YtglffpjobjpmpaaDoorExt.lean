/-
  THE WALK OF FnExactExtended: an extended value in UTF-8 or US-ASCII is its text, one in another charset of ASCII is refused; with the contracts of decode2231Enc and what lies between.
-/
import Derived.Test.YtglffpjobjpmpaaDoorEsc
import Derived.Test.YtglffpjobjpmpaaDoorLow
import Derived.Test.YtglffpjobjpmpaaDoorCut
import Derived.Test.YtglffpjobjpmpaaDoorPctImpl
import Derived.Test.YtglffpjobjpmpaaDoorShelf
namespace Go.Proofs.YtglffpjobjpmpaaDoor
open Go.RowKit

theorem ix39 (a b : List UInt8) (h : (39 : UInt8) ∉ a) : ixOf [39] (a ++ 39 :: b) = some a.length := by
  induction a with
  | nil => exact ixOf_hit _ _ rfl
  | cons c r ih =>
    rw [List.cons_append, ixOf_miss]
    · rw [ih (fun h' => h (List.mem_cons_of_mem _ h'))]; rfl
    · intro e
      simp at e
      exact h (by rw [e]; exact List.mem_cons_self)
theorem cut39 (s a b : ByteArray) (hs : L s = L a ++ 39 :: L b) (h : (39 : UInt8) ∉ L a) : cutOf s ⟨#[39]⟩ = .tuple #[.string a, .string b, .bool true] := by
  have hi : ixOf (L ⟨#[39]⟩) (L s) = some (L a).length := by rw [hs]; exact ix39 _ _ h
  have ha : s.extract 0 (L a).length = a := L_inj (by rw [L_to, hs]; simp)
  have hb : s.extract ((L a).length + 1) s.size = b := L_inj (by rw [L_from, hs]; simp)
  unfold cutOf
  rw [hi]
  show Value.tuple #[.string (s.extract 0 (L a).length), .string (s.extract ((L a).length + 1) s.size), .bool true] = _
  rw [ha, hb]

theorem toLower_c (s : ByteArray) (w : World) (hs : s.size ≤ 1099511627776) (ha : (L s).all asciiB = true) : Calls Tryd.prog 31 #[.string s] w (Makes (.string ⟨(Lib.toLowerA (L s)).toArray⟩) w) := by
  refine Tryd.strings_ToLower_ascii s w (by omega) ?_
  intro j b hj
  have := List.all_eq_true.1 ha b (List.mem_of_getElem? hj)
  have := of_decide_eq_true this
  omega

/-- What an extended value gives. -/
def extPair (cs : List UInt8) (x : ByteArray) : Value := if Lib.toLowerA cs = usL ∨ Lib.toLowerA cs = utf8L then .tuple #[.string x, .bool true] else .tuple #[.string ⟨#[]⟩, .bool false]

set_option maxRecDepth 100000 in
theorem decode2231_c (v cs la es x : ByteArray) (w : World) (hv : L v = L cs ++ 39 :: (L la ++ 39 :: L es)) (hcs : (39 : UInt8) ∉ L cs) (hla : (39 : UInt8) ∉ L la) (hasc : (L cs).all asciiB = true) (hx : pct (L es) = some (L x))
    (hs : v.size ≤ 1099511627776) : Calls Tryd.prog 26 #[.string v] w (Makes (extPair (L cs) x) w) := by
  have hlen := congrArg List.length hv
  simp only [List.length_append, List.length_cons, L_length] at hlen
  obtain ⟨v2, hv2, hv2s⟩ := text_of (L la ++ 39 :: L es)
  simp only [List.length_append, List.length_cons, L_length] at hv2s
  have h1 : v2.size ≤ 1099511627776 := by omega
  have h2 : es.size ≤ 1099511627776 := by omega
  have h3 : cs.size ≤ 1099511627776 := by omega
  have C1 := Lib.hid (cut39 v cs v2 (by rw [hv, hv2]) hcs)
  have C2 := Lib.hid (cut39 v2 la es hv2 hla)
  obtain ⟨y, hy⟩ : ∃ y, y = Lib.toLowerA (L cs) := ⟨_, rfl⟩
  have HY := Lib.hid hy
  have HT := Lib.hid (fun w => toLower_c cs w h3 hasc)
  have HE := Lib.hid (show extPair (L cs) x = if y = usL ∨ y = utf8L then .tuple #[.string x, .bool true] else .tuple #[.string ⟨#[]⟩, .bool false] by rw [hy]; rfl)
  have HP := Lib.hid hx
  clear hy hcs hla hasc hv2 hv hlen hx
  have n1 : (⟨#[39]⟩ : ByteArray).size ≤ 1099511627776 := by decide
  have N1 := Lib.hid n1
  clear n1
  by_cases hu : y = usL
  · have t1 : (y == [117, 115, 45, 97, 115, 99, 105, 105]) = true := by rw [hu]; rfl
    have HE2 := Lib.hid (show extPair (L cs) x = .tuple #[.string x, .bool true] by rw [HE.out, if_pos (.inl hu)])
    clear hu
    go_enter Tryd.func26, Tryd.ntmps26
    go_wp2_with fail
    refine (zzCut_c v _ w hs N1.out).mono ?_
    rintro e w1 ⟨rfl, n, rfl⟩
    rw [C1.out]
    go_wp2_with fail
    refine (zzCut_c v2 _ _ h1 N1.out).mono ?_
    rintro e w1 ⟨rfl, m, rfl⟩
    rw [C2.out]
    go_wp2_with fail
    refine (HT.out _).mono ?_
    rintro e w1 ⟨rfl, hb1⟩
    rw [← HY.out]
    go_wp2_with fail
    refine (percentHexUnescape_c es _ h2).mono ?_
    rintro e w2 ⟨rfl, hb2⟩
    rw [HP.out, pctPair, mk_L]
    go_wp2
    go_ret2
    exact ⟨by rw [HE2.out]; rfl, ((below_drewN (Below.refl w.heap.size w) _).trans hb1).trans (hb2.mono hb1.size)⟩
  · have t1 : (y == [117, 115, 45, 97, 115, 99, 105, 105]) = false := beq_eq_false_iff_ne.2 hu
    by_cases hv : y = utf8L
    · have t2 : (y == [117, 116, 102, 45, 56]) = true := by rw [hv]; rfl
      have HE2 := Lib.hid (show extPair (L cs) x = .tuple #[.string x, .bool true] by rw [HE.out, if_pos (.inr hv)])
      clear hu hv
      go_enter Tryd.func26, Tryd.ntmps26
      go_wp2_with fail
      refine (zzCut_c v _ w hs N1.out).mono ?_
      rintro e w1 ⟨rfl, n, rfl⟩
      rw [C1.out]
      go_wp2_with fail
      refine (zzCut_c v2 _ _ h1 N1.out).mono ?_
      rintro e w1 ⟨rfl, m, rfl⟩
      rw [C2.out]
      go_wp2_with fail
      refine (HT.out _).mono ?_
      rintro e w1 ⟨rfl, hb1⟩
      rw [← HY.out]
      go_wp2_with fail
      refine (percentHexUnescape_c es _ h2).mono ?_
      rintro e w2 ⟨rfl, hb2⟩
      rw [HP.out, pctPair, mk_L]
      go_wp2
      go_ret2
      exact ⟨by rw [HE2.out]; rfl, ((below_drewN (Below.refl w.heap.size w) _).trans hb1).trans (hb2.mono hb1.size)⟩
    · have t2 : (y == [117, 116, 102, 45, 56]) = false := beq_eq_false_iff_ne.2 hv
      have HE2 := Lib.hid (show extPair (L cs) x = .tuple #[.string ⟨#[]⟩, .bool false] by rw [HE.out, if_neg (fun h => h.elim hu hv)])
      clear hu hv
      go_enter Tryd.func26, Tryd.ntmps26
      go_wp2_with fail
      refine (zzCut_c v _ w hs N1.out).mono ?_
      rintro e w1 ⟨rfl, n, rfl⟩
      rw [C1.out]
      go_wp2_with fail
      refine (zzCut_c v2 _ _ h1 N1.out).mono ?_
      rintro e w1 ⟨rfl, m, rfl⟩
      rw [C2.out]
      go_wp2_with fail
      refine (HT.out _).mono ?_
      rintro e w1 ⟨rfl, hb1⟩
      rw [← HY.out]
      go_wp2_with fail
      go_ret2
      exact ⟨by rw [HE2.out]; rfl, (below_drewN (Below.refl w.heap.size w) _).trans hb1⟩

theorem extended_c (v cs la es x : ByteArray) (w : World) (hv : L v = L cs ++ 39 :: (L la ++ 39 :: L es)) (hcs : (39 : UInt8) ∉ L cs) (hla : (39 : UInt8) ∉ L la) (hasc : (L cs).all asciiB = true) (hx : pct (L es) = some (L x))
    (hs : v.size ≤ 1099511627776) : Calls Tryd.prog 8 #[.string v] w (Makes (extPair (L cs) x) w) := by
  have H := Lib.hid (fun w => decode2231_c v cs la es x w hv hcs hla hasc hx hs)
  obtain ⟨a, b, he⟩ : ∃ a b, extPair (L cs) x = .tuple #[a, b] := by unfold extPair; split <;> exact ⟨_, _, rfl⟩
  clear hv hcs hla hasc hx hs
  rw [he] at H ⊢
  have D : ∀ w, Calls Tryd.prog 17 #[.string v] w (Makes (.tuple #[a, b]) w) := by
    intro w
    go_enter Tryd.func17, Tryd.ntmps17
    go_wp2_with fail
    refine (H.out _).mono ?_
    rintro e w1 ⟨rfl, hb⟩
    go_wp2
    go_ret2
    exact ⟨rfl, hb⟩
  have HD := Lib.hid D
  clear D
  go_enter Tryd.func8, Tryd.ntmps8
  go_wp2_with fail
  refine (HD.out _).mono ?_
  rintro e w1 ⟨rfl, hb⟩
  go_wp2
  go_ret2
  exact ⟨rfl, hb⟩

theorem ext_text (c l q : ByteArray) : L (c ++ ⟨#[39]⟩ ++ l ++ ⟨#[39]⟩ ++ q) = L c ++ 39 :: (L l ++ 39 :: L q) := by
  rw [append_L, append_L, append_L, append_L]
  show L c ++ [39] ++ L l ++ [39] ++ L q = _
  simp
theorem ext_size (c l q : ByteArray) : (c ++ ⟨#[39]⟩ ++ l ++ ⟨#[39]⟩ ++ q).size = c.size + l.size + q.size + 2 := by
  rw [← L_length, ext_text]
  simp [L_length]
  omega
theorem esc_size (l : List UInt8) : (⟨(escA l).toArray⟩ : ByteArray).size = (escA l).length := by rw [← L_length, L_mk]

set_option maxHeartbeats 1000000 in
set_option maxRecDepth 100000 in
theorem fnExactExtended_walk (c l s : ByteArray) (w : World) (m0 : c.size ≤ maxLen) (m1 : l.size ≤ maxLen) (m2 : s.size ≤ maxLen) : Calls Tryd.prog 3 #[.string c, .string l, .string s] w (Makes (.bool true) w) := by
  unfold maxLen at m0 m1 m2
  by_cases h0 : (16777216 : Int) < (c.size : Int)
  · go_enter Tryd.func3, Tryd.ntmps3
    go_wp2
    all_goals
      go_ret
      exact ⟨rfl, Below.refl _ _⟩
  by_cases h1 : (16777216 : Int) < (l.size : Int)
  · go_enter Tryd.func3, Tryd.ntmps3
    go_wp2
    all_goals
      go_ret
      exact ⟨rfl, Below.refl _ _⟩
  by_cases h2 : (16777216 : Int) < (s.size : Int)
  · go_enter Tryd.func3, Tryd.ntmps3
    go_wp2
    all_goals
      go_ret
      exact ⟨rfl, Below.refl _ _⟩
  have d0 : decide ((16777216 : Int) < (c.size : Int)) = false := by simpa using h0
  have d1 : decide ((16777216 : Int) < (l.size : Int)) = false := by simpa using h1
  have d2 : decide ((16777216 : Int) < (s.size : Int)) = false := by simpa using h2
  have e0 : decide ((2147483647 : Int) < (c.size : Int)) = false := by simp; omega
  have e1 : decide ((2147483647 : Int) < (l.size : Int)) = false := by simp; omega
  have e2 : decide ((2147483647 : Int) < (s.size : Int)) = false := by simp; omega
  have b0 : c.size ≤ 16777216 := by omega
  have b1 : l.size ≤ 16777216 := by omega
  have b2 : s.size ≤ 16777216 := by omega
  clear h0 h1 h2 m0 m1 m2
  cases hasc : (L c).all asciiB
  · have HA := Lib.hid hasc
    clear hasc
    go_enter Tryd.func3, Tryd.ntmps3
    go_wp2_with (go_at_call 6; refine (ascii_c _ _ (by omega)).mono ?_; rintro e w1 ⟨rfl, rfl⟩; rw [HA.out])
    go_ret
    exact ⟨rfl, Below.refl _ _⟩
  have HA := Lib.hid hasc
  clear hasc
  have hcase : ∃ (n : Int) (p : Value), charsN (L c) = n ∧ extPair (L c) s = p ∧ ((p = .tuple #[.string s, .bool true] ∧ (n = 1 ∨ n = 3)) ∨ (p = .tuple #[.string ⟨#[]⟩, .bool false] ∧ (n != 1) = true ∧ (n != 3) = true)) := by
    refine ⟨_, _, rfl, rfl, ?_⟩
    unfold charsN extPair
    by_cases h1 : Lib.toLowerA (L c) = utf8L
    · left; rw [if_pos h1, if_pos (.inr h1)]; exact ⟨rfl, .inl rfl⟩
    · rw [if_neg h1]
      by_cases h2 : Lib.toLowerA (L c) = isoL
      · right
        rw [if_pos h2, if_neg (by rintro (h | h); · rw [h] at h2; revert h2; decide
                                  · exact h1 h)]
        exact ⟨rfl, rfl, rfl⟩
      · rw [if_neg h2]
        by_cases h3 : Lib.toLowerA (L c) = usL
        · left; rw [if_pos h3, if_pos (.inl h3)]; exact ⟨rfl, .inr rfl⟩
        · right; rw [if_neg h3, if_neg (fun h => h.elim h3 h1)]; exact ⟨rfl, rfl, rfl⟩
  obtain ⟨n, p, hn, hp, hnp⟩ := hcase
  have HN := Lib.hid hn
  have HP := Lib.hid hp
  obtain ⟨q, hq⟩ : ∃ q : ByteArray, q = ⟨(escA (L s)).toArray⟩ := ⟨_, rfl⟩
  have hqs : q.size ≤ 50331648 := by rw [hq, esc_size]; have := escA_len (L s); rw [L_length] at this; omega
  have HQ := Lib.hid hq.symm
  have HX := Lib.hid (show pct (L q) = some (L s) by rw [hq, L_mk]; exact pct_escA _)
  clear hn hp hq
  rcases hnp with ⟨rfl, rfl | rfl⟩ | ⟨rfl, t1, t3⟩
  all_goals
    go_enter Tryd.func3, Tryd.ntmps3
    go_wp2_with (go_at_call 6; refine (ascii_c _ _ (by omega)).mono ?_; rintro e w1 ⟨rfl, rfl⟩; rw [HA.out])
    go_loop [7] (fun i => ∃ (k : Nat), k ≤ l.size ∧ i = .int .i64 k ∧ (39 : UInt8) ∉ (L l).take k) (fun i => l.size - (intOf i).toNat)
    case atStart => exact ⟨0, Nat.zero_le _, rfl, by simp⟩
    case round =>
      obtain ⟨k, hk, rfl, hno⟩ := hrel
      have HN1 := Lib.hid hno
      clear hno
      by_cases hlt : k < l.size
      · by_cases c39 : l[k] = 39
        · have t39 : ((l[k].toNat : Int) == 39) = true := beq_yes _ 39 _ rfl c39
          clear c39
          go_wp2_with fail
          go_ret
          exact ⟨rfl, Below.refl _ _⟩
        · have t39 : ((l[k].toNat : Int) == 39) = false := beq_no _ 39 _ rfl c39
          have HS := Lib.hid (show (39 : UInt8) ∉ (L l).take (k + 1) by
            have hd : (L l)[k]? = some l[k] := by unfold L; simp [hlt]; rfl
            rw [List.take_add_one, hd]
            simp only [Option.toList_some, List.mem_append, List.mem_singleton]
            rintro (h | h)
            · exact HN1.out h
            · exact c39 h.symm)
          clear c39
          go_wp2_with fail
          go_round
          case rel => exact ⟨k + 1, by omega, by go_num, HS.out⟩
          case measure => simp [intOf]; omega
      · have HL := Lib.hid (show (39 : UInt8) ∉ L l by
          have h := HN1.out
          rwa [show k = (L l).length by rw [L_length]; omega, List.take_length] at h)
        clear HN1
        go_wp2_with (go_at_call 7; refine (chars_c _ _ (by omega)).mono ?_; rintro e w1 ⟨rfl, hb1⟩; rw [HN.out])
        go_loop [9] (fun i => ∃ (k : Nat), k ≤ c.size ∧ i = .int .i64 k ∧ (39 : UInt8) ∉ (L c).take k) (fun i => c.size - (intOf i).toNat)
        case atStart => exact ⟨0, Nat.zero_le _, rfl, by simp⟩
        case round =>
          obtain ⟨k, hk, rfl, hno⟩ := hrel
          have HN1 := Lib.hid hno
          clear hno
          by_cases hlt : k < c.size
          · by_cases c39 : c[k] = 39
            · have t39 : ((c[k].toNat : Int) == 39) = true := beq_yes _ 39 _ rfl c39
              clear c39
              go_wp2_with fail
              go_ret
              exact ⟨rfl, hb1⟩
            · have t39 : ((c[k].toNat : Int) == 39) = false := beq_no _ 39 _ rfl c39
              have HS := Lib.hid (show (39 : UInt8) ∉ (L c).take (k + 1) by
                have hd : (L c)[k]? = some c[k] := by unfold L; simp [hlt]; rfl
                rw [List.take_add_one, hd]
                simp only [Option.toList_some, List.mem_append, List.mem_singleton]
                rintro (h | h)
                · exact HN1.out h
                · exact c39 h.symm)
              clear c39
              go_wp2_with fail
              go_round
              case rel => exact ⟨k + 1, by omega, by go_num, HS.out⟩
              case measure => simp [intOf]; omega
          · have HC := Lib.hid (show (39 : UInt8) ∉ L c by
              have h := HN1.out
              rwa [show k = (L c).length by rw [L_length]; omega, List.take_length] at h)
            clear HN1
            go_wp2_with (first
              | (go_at_call 9; refine (escape_c s _ (by omega)).mono ?_; rintro e w2 ⟨rfl, hb2⟩; rw [HQ.out])
              | (go_at_call 8; refine (extended_c _ c l q s _ (ext_text c l q) HC.out HL.out HA.out HX.out (by rw [ext_size]; omega)).mono ?_; rintro e w3 ⟨rfl, hb3⟩; rw [HP.out]))
            go_ret
            exact ⟨rfl, (hb1.trans (hb2.mono hb1.size)).trans (hb3.mono (Nat.le_trans hb1.size hb2.size))⟩
end Go.Proofs.YtglffpjobjpmpaaDoor
