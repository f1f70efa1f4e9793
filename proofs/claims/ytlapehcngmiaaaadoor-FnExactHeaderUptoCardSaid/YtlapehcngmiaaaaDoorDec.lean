/-
  CONTRACTS OF mime's decode (the Q encoding), (*WordDecoder).Decode AND impl's Decode, at an encoded word that is well formed.
-/
import Derived.Test.YtlapehcngmiaaaaDoorConv
import Derived.Test.YtlapehcngmiaaaaDoorCnt
import Derived.Test.YtlapehcngmiaaaaDoorQdec
namespace Go.Proofs.YtlapehcngmiaaaaDoor
open Go.RowKit

theorem ixC (c : UInt8) (a b : List UInt8) (h : c ∉ a) : ixOf [c] (a ++ c :: b) = some a.length := by
  induction a with
  | nil => exact ixOf_hit _ _ rfl
  | cons d r ih =>
    rw [List.cons_append, ixOf_miss]
    · rw [ih (fun h' => h (List.mem_cons_of_mem _ h'))]; rfl
    · intro e
      simp at e
      exact h (by rw [e]; exact List.mem_cons_self)
theorem cutC (c : UInt8) (s a b sub : ByteArray) (hsub : L sub = [c]) (hs : L s = L a ++ c :: L b) (h : c ∉ L a) : cutOf s sub = .tuple #[.string a, .string b, .bool true] := by
  have hi : ixOf (L sub) (L s) = some (L a).length := by rw [hs, hsub]; exact ixC _ _ _ h
  have hz : sub.size = 1 := by rw [← L_length, hsub]; rfl
  have ha : s.extract 0 (L a).length = a := L_inj (by rw [L_to, hs]; simp)
  have hb : s.extract ((L a).length + 1) s.size = b := L_inj (by rw [L_from, hs]; simp)
  unfold cutOf
  rw [hi, hz]
  show Value.tuple #[.string (s.extract 0 (L a).length), .string (s.extract ((L a).length + 1) s.size), .bool true] = _
  rw [ha, hb]

/-- What decode hands back: the bytes x at the head of a new row. -/
def Got (x : List UInt8) (w : World) (e : Ending) (w' : World) : Prop :=
  ∃ g q, e = .returned (.tuple #[.slice (some ⟨g, 0, none⟩) x.length q, .nilIface]) ∧ w.heap.size ≤ g ∧ Fills g q x w' ∧ Below w.heap.size w w'

theorem decode_q (n : Int) (t : ByteArray) (x : List UInt8) (w : World) (hn : n = 81 ∨ n = 113) (ht : t.size ≤ 1099511627776) (hx : QDec (L t) x) : Calls Tryd.prog 31 #[.int .u8 n, .string t] w (Got x w) := by
  have H := Lib.hid (qDecode_c t x w ht hx)
  clear hx
  rcases hn with rfl | rfl
  all_goals
    go_enter Tryd.func31, Tryd.ntmps31
    go_wp2_with fail
    refine (H.out).mono ?_
    rintro e w1 ⟨rfl, hf, hb⟩
    go_wp2_with fail
    go_ret2
    exact ⟨_, _, rfl, Nat.le_refl _, hf, hb⟩

theorem charsN_word (l : List UInt8) (h : charsN l ≠ 0) : (63 : UInt8) ∉ l ∧ 5 ≤ l.length ∧ l.length ≤ 10 := by
  have key : ∀ k : List UInt8, Lib.toLowerA l = k → (63 : UInt8) ∉ k → (63 : UInt8) ∉ l ∧ l.length = k.length := by
    intro k hk h63
    subst hk
    refine ⟨fun hm => h63 ?_, by simp [Lib.toLowerA]⟩
    unfold Lib.toLowerA
    exact List.mem_map.2 ⟨63, hm, by decide⟩
  rcases charsN_cases l with e | e | e | e
  · obtain ⟨h1, h2⟩ := key _ (charsN_one l e) (by decide); exact ⟨h1, by rw [h2]; decide, by rw [h2]; decide⟩
  · obtain ⟨h1, h2⟩ := key _ (charsN_two l e) (by decide); exact ⟨h1, by rw [h2]; decide, by rw [h2]; decide⟩
  · obtain ⟨h1, h2⟩ := key _ (charsN_three l e) (by decide); exact ⟨h1, by rw [h2]; decide, by rw [h2]; decide⟩
  · exact absurd e h

theorem hasPrefix_c (s p : ByteArray) (w : World) (h : Lib.hasPrefix (L s) (L p) = true) : Calls Tryd.prog 37 #[.string s, .string p] w (Pure (.bool true) w) :=
  (Tryd.strings_HasPrefix s p w).mono fun _ _ hh => ⟨by rw [hh.1]; exact ret_bool h, hh.2.symm⟩
theorem hasSuffix_c (s p : ByteArray) (w : World) (hs : s.size ≤ 1099511627776) (h : Lib.hasSuffix (L s) (L p) = true) : Calls Tryd.prog 38 #[.string s, .string p] w (Pure (.bool true) w) :=
  (Tryd.strings_HasSuffix s p w (by omega)).mono fun _ _ hh => ⟨by rw [hh.1]; exact ret_bool h, hh.2.symm⟩

set_option maxHeartbeats 1000000 in
set_option maxRecDepth 100000 in
theorem decodeWord_c (d : Value) (v cs t : ByteArray) (how : UInt8) (x : List UInt8) (w : World) (hv : L v = 61 :: 63 :: (L cs ++ 63 :: how :: 63 :: (L t ++ [63, 61]))) (hh : how ≠ 63) (ht : (63 : UInt8) ∉ L t) (hn : charsN (L cs) ≠ 0) (ha : charsN (L cs) = 3 → x.all asciiB = true)
    (hs : v.size ≤ 1099511627776) (hxl : x.length ≤ 1099511627776) (HD : ∀ w, Calls Tryd.prog 31 #[.int .u8 (how.toNat : Int), .string t] w (Got x w)) :
    Calls Tryd.prog 24 #[d, .string v] w (Makes (.tuple #[.string ⟨(convB (charsN (L cs)) x).toArray⟩, .nilIface]) w) := by
  obtain ⟨h63, h5, h10⟩ := charsN_word _ hn
  have hlen := congrArg List.length hv
  simp only [List.length_append, List.length_cons, L_length, List.length_nil] at hlen h5 h10
  obtain ⟨v1, hv1, hv1s⟩ := text_of (L cs ++ 63 :: how :: 63 :: L t)
  simp only [List.length_append, List.length_cons, L_length] at hv1s
  obtain ⟨v2, hv2, hv2s⟩ := text_of (how :: 63 :: L t)
  simp only [List.length_cons, L_length] at hv2s
  have m1 : v1.size ≤ 1099511627776 := by omega
  have m2 : v2.size ≤ 1099511627776 := by omega
  have P1 := Lib.hid fun w => hasPrefix_c v ⟨#[61, 63]⟩ w (by rw [hv]; rfl)
  have P2 := Lib.hid fun w => hasSuffix_c v ⟨#[63, 61]⟩ w hs (by
    have e : L v = (61 :: 63 :: (L cs ++ 63 :: how :: 63 :: L t)) ++ L ⟨#[63, 61]⟩ := by rw [hv]; show _ = _ ++ [63, 61]; simp
    rw [e]
    unfold Lib.hasSuffix
    exact List.isSuffixOf_iff_suffix.2 (List.suffix_append _ _))
  have P3 : Hid (∀ w, Calls Tryd.prog 39 #[.string v, .string ⟨#[63]⟩] w (Pure (.int .i64 4) w)) := Lib.hid fun w => by
    have c := zzCount_c v ⟨#[63]⟩ 63 w hs rfl
    have e : (L v).count 63 = 4 := by
      rw [hv]
      simp [List.count_append, List.count_eq_zero_of_not_mem h63, List.count_eq_zero_of_not_mem ht, hh]
    rw [e] at c
    exact c
  have C1 := Lib.hid (cutC 63 v1 cs v2 ⟨#[63]⟩ rfl (by rw [hv1, hv2]) h63)
  have C2 := Lib.hid (cutC 63 v2 ⟨#[how]⟩ t ⟨#[63]⟩ rfl (by rw [hv2]; rfl) (by show (63 : UInt8) ∉ [how]; simp; exact fun e => hh e.symm))
  have hsl : ∀ w, (Instr.slice 9 (.string v) (some (.int .i64 2)) (some (.int .i64 ((v.size : Int) - 2))) none).run Tryd.prog w = .ok (.string v1) w := fun w => by
    rw [run_slice_string w 9 v .i64 .i64 2 ((v.size : Int) - 2) Tryd.underlying9 (by omega) (by omega) (by omega)]
    have e : v.extract (2 : Int).toNat ((v.size : Int) - 2).toNat = v1 := L_inj (by
      have e1 : ((v.size : Int) - 2).toNat - (2 : Int).toNat = (L v1).length := by rw [L_length]; omega
      rw [extract_L, e1, hv, hv1]
      show List.take _ (L cs ++ 63 :: how :: 63 :: (L t ++ [63, 61])) = _
      rw [show L cs ++ 63 :: how :: 63 :: (L t ++ [63, 61]) = (L cs ++ 63 :: how :: 63 :: L t) ++ [63, 61] by simp]
      exact List.take_left)
    rw [e]
  have d8 : decide ((v.size : Int) < 8) = false := by simp; omega
  have hcs : 0 < cs.size := by omega
  have hemp := not_empty cs hcs
  have N1 : Hid ((⟨#[63]⟩ : ByteArray).size ≤ 1099511627776) := Lib.hid (by decide)
  have HH := Lib.hid HD
  have HC := Lib.hid fun (B b g o q : Nat) (l : List UInt8) (w : World) => convert_c d B b g o q l x cs w hn ha
  clear hv hh ht h63 hlen hv1 hv2 HD hn ha hv1s hv2s h5 h10
  go_enter Tryd.func24, Tryd.ntmps24
  go_wp2_with fail
  refine (P1.out _).mono ?_
  rintro e w1 ⟨rfl, rfl⟩
  go_wp2_with fail
  refine (P2.out _).mono ?_
  rintro e w1 ⟨rfl, rfl⟩
  go_wp2_with fail
  refine (P3.out _).mono ?_
  rintro e w1 ⟨rfl, rfl⟩
  go_wp2_with fail
  refine (zzCut_c v1 _ _ m1 N1.out).mono ?_
  rintro e w1 ⟨rfl, n1, rfl⟩
  rw [C1.out]
  clear hsl
  go_wp2_with fail
  refine (zzCut_c v2 _ _ m2 N1.out).mono ?_
  rintro e w1 ⟨rfl, n2, rfl⟩
  rw [C2.out]
  go_wp2_with fail
  refine (HH.out _).mono ?_
  rintro e w2 ⟨g, q, rfl, hg, hfill, hb2⟩
  have hgl : g < w2.heap.size := by
    rcases Nat.lt_or_ge g w2.heap.size with h1 | h1
    · exact h1
    · have := hfill.1
      rw [Array.getElem?_eq_none h1] at this
      cases this
  have hbl := bld_fresh w2
  have hf2 := hfill.below ((Below.refl _ w2).alloc (Nat.le_refl _) (.cells #[.pointer none, .slice none 0 0] 55))
  go_wp2_with fail
  refine (HC.out w2.heap.size w2.heap.size g 0 q [] _ hbl hgl hf2.lies (by simp; omega)).mono ?_
  rintro e w3 ⟨rfl, hbl3, hb3⟩
  rw [List.nil_append] at hbl3
  go_wp2_with fail
  refine (string_c _ _ _ _ hbl3).mono ?_
  rintro e w4 ⟨rfl, hb4⟩
  go_wp2_with fail
  go_ret2
  refine ⟨rfl, ?_⟩
  have b0 : Below w.heap.size w w2 := (below_drewN (Below.refl w.heap.size w) (n1 + n2)).trans hb2
  have z2 := b0.size
  exact (((b0.alloc z2 _).trans (hb3.mono z2)).trans (hb4.mono z2))

theorem implDecode_c (v cs t : ByteArray) (how : UInt8) (x : List UInt8) (w : World) (hv : L v = 61 :: 63 :: (L cs ++ 63 :: how :: 63 :: (L t ++ [63, 61]))) (hh : how ≠ 63) (ht : (63 : UInt8) ∉ L t) (hn : charsN (L cs) ≠ 0) (ha : charsN (L cs) = 3 → x.all asciiB = true)
    (hs : v.size ≤ 1099511627776) (hxl : x.length ≤ 1099511627776) (HD : ∀ w, Calls Tryd.prog 31 #[.int .u8 (how.toNat : Int), .string t] w (Got x w)) :
    Calls Tryd.prog 11 #[.string v] w (Makes (.tuple #[.string ⟨(convB (charsN (L cs)) x).toArray⟩, .bool true]) w) := by
  have H := Lib.hid (fun d w => decodeWord_c d v cs t how x w hv hh ht hn ha hs hxl HD)
  clear hv hh ht hn ha hs hxl HD
  go_enter Tryd.func11, Tryd.ntmps11
  go_wp2_with fail
  refine (H.out _ _).mono ?_
  rintro e w1 ⟨rfl, hb⟩
  go_wp2_with fail
  go_quiet (fail)
  go_wp2
  go_ret2
  exact ⟨rfl, below_drewN (((Below.refl _ _).alloc (Nat.le_refl _) _).trans (hb.mono (by simp))) _⟩
end Go.Proofs.YtlapehcngmiaaaaDoor
