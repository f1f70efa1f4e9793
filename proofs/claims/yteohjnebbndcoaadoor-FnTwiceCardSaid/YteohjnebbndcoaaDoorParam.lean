/-
  CONTRACTS OF strings.TrimLeftFunc (at unicode.IsSpace), CutPrefix AND mime's consumeMediaParam, at a parameter that is well formed; where unicode.White_Space lies as the program's text lays it.
-/
import Derived.Test.YteohjnebbndcoaaDoorVal
import Derived.Test.YteohjnebbndcoaaDoorValLaws
import Derived.Test.YteohjnebbndcoaaDoorLow
import Derived.Test.YteohjnebbndcoaaDoorShelf
import Derived.Shelf.Strings.TrimFuncSpace
import Derived.Lib.TrimAscii
import Derived.Lib.TrimUEq
namespace Go.Proofs.YteohjnebbndcoaaDoor
open Go.RowKit

theorem trimD (bl r : List UInt8) (c : UInt8) (hb : ∀ b ∈ bl, Lib.isSp b = true) (hc : Lib.isSp c = false) (h128 : c.toNat < 128) : ∀ f, bl.length < f → Lib.trimLeftD f (bl ++ c :: r) = c :: r := by
  induction bl with
  | nil =>
    intro f hf
    obtain ⟨g, rfl⟩ : ∃ g, f = g + 1 := ⟨f - 1, by simp at hf; omega⟩
    exact Lib.left_stop g c r hc h128
  | cons b bl ih =>
    intro f hf
    obtain ⟨g, rfl⟩ : ∃ g, f = g + 1 := ⟨f - 1, by omega⟩
    rw [List.cons_append, Lib.left_step g b _ (hb b List.mem_cons_self)]
    exact ih (fun x hx => hb x (List.mem_cons_of_mem _ hx)) g (by simp at hf; omega)
theorem trimLeft_c (s t : ByteArray) (bl r : List UInt8) (c : UInt8) (w : World) (hs : L s = bl ++ c :: r) (ht : L t = c :: r) (hb : ∀ b ∈ bl, Lib.isSp b = true) (hc : Lib.isSp c = false) (h128 : c.toNat < 128) (hW : Lib.WhiteTab 7 w) :
    Calls Tryd.prog 28 #[.string s, .func (.func 29) #[] #[]] w (Makes (.string t) w) := by
  have h := Any.strings_TrimLeftFunc_space (ρ := Tryd.lays163_ren) { Tryd.lays163 with } { Tryd.lays163 with } s w hW
  have e : Lib.goTrimLeft s = t := L_inj (by
    have e1 := Lib.goTrimLeft_eq s
    have e2 : L (Lib.goTrimLeft s) = Lib.trimLeftD (L s).length (L s) := e1
    rw [e2, ht, hs]
    exact trimD bl r c hb hc h128 _ (by simp))
  rw [e] at h
  exact h
theorem cutPrefix_c (s p t : ByteArray) (w : World) (hs : L s = L p ++ L t) : Calls Tryd.prog 38 #[.string s, .string p] w (Pure (.tuple #[.string t, .bool true]) w) := by
  have h := Tryd.strings_CutPrefix s p w
  have e1 : Lib.hasPrefix s.data.toList p.data.toList = true := by
    show Lib.hasPrefix (L s) (L p) = true
    rw [hs]
    unfold Lib.hasPrefix
    exact List.isPrefixOf_iff_prefix.2 (List.prefix_append _ _)
  have e2 : (⟨(Lib.trimPrefix s.data.toList p.data.toList).toArray⟩ : ByteArray) = t := L_inj (by
    rw [L_mk]
    unfold Lib.trimPrefix
    rw [if_pos e1]
    show (L s).drop (L p).length = _
    rw [hs, List.drop_left])
  rw [e1, e2] at h
  exact h.mono fun _ _ hh => ⟨hh.1, hh.2.symm⟩
theorem strLower_c (s : ByteArray) (w : World) (hs : s.size ≤ 1099511627776) (ha : (L s).all asciiB = true) : Calls Tryd.prog 26 #[.string s] w (Makes (.string ⟨(Lib.toLowerA (L s)).toArray⟩) w) := by
  refine Tryd.strings_ToLower_ascii s w (by omega) ?_
  intro j b hj
  have := List.all_eq_true.1 ha b (List.mem_of_getElem? hj)
  have := of_decide_eq_true this
  omega
theorem tok_all : ∀ i : Fin 256, tokB (UInt8.ofNat i.val) = true → asciiB (UInt8.ofNat i.val) = true ∧ Lib.isSp (UInt8.ofNat i.val) = false ∧ UInt8.ofNat i.val ≠ 34 ∧ UInt8.ofNat i.val ≠ 59 ∧ UInt8.ofNat i.val ≠ 61 := by decide +kernel
theorem tok_facts (c : UInt8) (h : tokB c = true) : asciiB c = true ∧ Lib.isSp c = false ∧ c ≠ 34 ∧ c ≠ 59 ∧ c ≠ 61 := by
  have := tok_all ⟨c.toNat, c.toNat_lt⟩
  simp only [UInt8.ofNat_toNat] at this
  exact this h
theorem asciiB_lt {c : UInt8} (h : asciiB c = true) : c.toNat < 128 := by
  have := of_decide_eq_true h
  omega
theorem allB_mem (p : UInt8 → Bool) (l : List UInt8) (h : allB p l = true) : ∀ c ∈ l, p c = true := by
  induction l with
  | nil => intro c hc; cases hc
  | cons d r ih =>
    rw [allB] at h
    split at h
    · rename_i hd
      intro c hc
      rcases List.mem_cons.1 hc with rfl | hc
      · exact hd
      · exact ih h c hc
    · cases h
theorem isTok_facts (l : List UInt8) (h : isTok l = true) : (∃ c r, l = c :: r ∧ tokB c = true) ∧ l.all asciiB = true ∧ (∀ c ∈ l, tokB c = true) := by
  rw [isTok, Bool.and_eq_true] at h
  have hm := allB_mem _ _ h.2
  refine ⟨?_, List.all_eq_true.2 fun c hc => (tok_facts c (hm c hc)).1, hm⟩
  cases l with
  | nil => exact absurd h.1 (by decide)
  | cons c r => exact ⟨c, r, rfl, hm c List.mem_cons_self⟩

/-- The value at the head of a text is told by this contract. -/
def ValueIs (vr value rest : ByteArray) : Prop := ∀ w : World, Calls Tryd.prog 40 #[.string vr] w (Makes (.tuple #[.string value, .string rest]) w)

set_option maxHeartbeats 1000000 in
set_option maxRecDepth 100000 in
theorem consumeMediaParam_c (v name value rest vr : ByteArray) (ah be : List UInt8) (w : World) (hv : L v = ah ++ 59 :: (be ++ (L name ++ 61 :: L vr))) (hah : ∀ b ∈ ah, Lib.isSp b = true) (hbe : ∀ b ∈ be, Lib.isSp b = true)
    (hname : isTok (L name) = true) (hvr : ∃ c r, L vr = c :: r ∧ Lib.isSp c = false ∧ c.toNat < 128) (hlt : rest.size < vr.size) (HV : ValueIs vr value rest) (hs : v.size ≤ 1099511627776) (hW : Lib.WhiteTab 7 w) :
    Calls Tryd.prog 23 #[.string v] w (Makes (.tuple #[.string ⟨(Lib.toLowerA (L name)).toArray⟩, .string value, .string rest]) w) := by
  obtain ⟨⟨n0, nr, hn0, hnt⟩, hasc, hmem⟩ := isTok_facts _ hname
  obtain ⟨na, nsp, _, _, _⟩ := tok_facts n0 hnt
  obtain ⟨c0, r0, hc0, hcsp, hc128⟩ := hvr
  have hlen := congrArg List.length hv
  simp only [List.length_append, List.length_cons, L_length] at hlen
  obtain ⟨v1, hv1, hv1s⟩ := text_of (59 :: (be ++ (L name ++ 61 :: L vr)))
  obtain ⟨v2, hv2, hv2s⟩ := text_of (be ++ (L name ++ 61 :: L vr))
  obtain ⟨v3, hv3, hv3s⟩ := text_of (L name ++ 61 :: L vr)
  obtain ⟨v4, hv4, hv4s⟩ := text_of (61 :: L vr)
  simp only [List.length_append, List.length_cons, L_length] at hv3s
  have m3 : v3.size ≤ 4611686018427387904 := by omega
  have mn : name.size ≤ 1099511627776 := by omega
  have T1 := Lib.hid fun w hW => trimLeft_c v v1 ah (be ++ (L name ++ 61 :: L vr)) 59 w hv hv1 hah (by decide) (by decide) hW
  have P1 := Lib.hid fun w => cutPrefix_c v1 ⟨#[59]⟩ v2 w (by rw [hv1, hv2]; rfl)
  have T2 := Lib.hid fun w hW => trimLeft_c v2 v3 be (nr ++ 61 :: L vr) n0 w (by rw [hv2, hn0]; rfl) (by rw [hv3, hn0]; rfl) hbe nsp (asciiB_lt na) hW
  have hpair : tokPair v3 = .tuple #[.string name, .string v4] := by
    have hk : tokN (L v3) = name.size := by
      rw [hv3, tokN_append _ _ (by rw [isTok, Bool.and_eq_true] at hname; exact hname.2) (by rw [tokN, if_neg (by decide)]), L_length]
    have e1 : v3.extract 0 name.size = name := L_inj (by rw [L_to, hv3, ← L_length, List.take_left])
    have e2 : v3.extract name.size v3.size = v4 := L_inj (by rw [L_from, hv3, hv4, ← L_length, List.drop_left])
    unfold tokPair
    rw [hk, e1, e2]
  have HP := Lib.hid hpair
  obtain ⟨low, hlow, hlows⟩ := text_of (Lib.toLowerA (L name))
  have HLo := Lib.hid (show (⟨(Lib.toLowerA (L name)).toArray⟩ : ByteArray) = low from L_inj (by rw [L_mk, hlow]))
  have TL := Lib.hid fun w => strLower_c name w mn hasc
  have hlow0 : 0 < low.size := by rw [hlows, hn0]; simp [Lib.toLowerA]
  have hemp := not_empty low hlow0
  have T3 := Lib.hid fun w hW => trimLeft_c v4 v4 [] (L vr) 61 w hv4 hv4 (by simp) (by decide) (by decide) hW
  have P2 := Lib.hid fun w => cutPrefix_c v4 ⟨#[61]⟩ vr w (by rw [hv4]; rfl)
  have T4 := Lib.hid fun w hW => trimLeft_c vr vr [] r0 c0 w hc0 hc0 (by simp) hcsp hc128 hW
  have hne : (rest.toList == vr.toList) = false := by
    rw [beq_eq_false_iff_ne, toList_L, toList_L]
    intro e
    have := congrArg List.length e
    rw [L_length, L_length] at this
    omega
  have HW := Lib.hid hW
  have HVV := Lib.hid HV
  have hval : value.toList = [] ∨ value.toList.isEmpty = false := by cases value.toList <;> simp
  rw [HLo.out] at TL ⊢
  clear hv hah hbe hname hasc hmem hn0 hnt nsp na hc0 hcsp hc128 hlen hv1 hv2 hv3 hv4 hpair hW HV hlow hlows hlt hv1s hv2s hv4s
  rcases hval with hval | hval
  all_goals
    go_enter Tryd.func23, Tryd.ntmps23
    go_wp2_with fail
    refine (T1.out _ HW.out).mono ?_
    rintro e w1 ⟨rfl, b1⟩
    go_wp2_with fail
    refine (P1.out _).mono ?_
    rintro e w2 ⟨rfl, rfl⟩
    go_wp2_with fail
    refine (T2.out _ (WhiteTab_below HW.out b1)).mono ?_
    rintro e w2 ⟨rfl, b2'⟩
    have b2 := b1.trans (b2'.mono b1.size)
    go_wp2_with fail
    refine (consumeToken_c v3 _ m3).mono ?_
    rintro e w3 ⟨rfl, n, rfl⟩
    rw [HP.out]
    have b3 := below_drewN b2 n
    go_wp2_with fail
    refine (TL.out _).mono ?_
    rintro e w4 ⟨rfl, b4'⟩
    have b4 := b3.trans (b4'.mono b3.size)
    go_wp2_with fail
    refine (T3.out _ (WhiteTab_below HW.out b4)).mono ?_
    rintro e w5 ⟨rfl, b5'⟩
    have b5 := b4.trans (b5'.mono b4.size)
    go_wp2_with fail
    refine (P2.out _).mono ?_
    rintro e w6 ⟨rfl, rfl⟩
    go_wp2_with fail
    refine (T4.out _ (WhiteTab_below HW.out b5)).mono ?_
    rintro e w6 ⟨rfl, b6'⟩
    have b6 := b5.trans (b6'.mono b5.size)
    go_wp2_with fail
    refine (HVV.out _).mono ?_
    rintro e w7 ⟨rfl, b7'⟩
    have b7 := b6.trans (b7'.mono b6.size)
    go_wp2_with fail
    go_ret3
    exact ⟨rfl, b7⟩
end Go.Proofs.YteohjnebbndcoaaDoor
