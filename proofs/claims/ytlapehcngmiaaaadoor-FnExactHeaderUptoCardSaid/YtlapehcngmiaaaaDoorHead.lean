/-
  THE WALK OF mime's DecodeHeader at the text of items.
-/
import Derived.Test.YtlapehcngmiaaaaDoorHLaw
namespace Go.Proofs.YtlapehcngmiaaaaDoor
open Go.RowKit

theorem Bld.below {B b : Nat} {l : List UInt8} {w w' : World} (h : Bld B b l w) (hb : Below w.heap.size w w') : Bld B b l w' := by
  obtain ⟨hI, hBw⟩ := h
  have key : ∀ p0, Lib.BuilderAt 55 5 B b p0 (Lib.byteCells l) w → Lib.BuilderAt 55 5 B b p0 (Lib.byteCells l) w' := by
    intro p0 h0
    have hlt := h0.lt
    obtain ⟨hB, v0, hb0, hown, hne⟩ := h0
    exact ⟨hB, v0, by rw [hb.block b hlt]; exact hb0, own_below hown hb, hne⟩
  exact ⟨hI.elim (fun h => .inl (key _ h)) (fun h => .inr (key _ h)), Nat.le_trans hBw hb.size⟩
theorem Bld.lt {B b : Nat} {l : List UInt8} {w : World} (h : Bld B b l w) : b < w.heap.size := h.1.elim (fun h => h.lt) (fun h => h.lt)
theorem Bld.off_new {B b g : Nat} {l : List UInt8} {w w' : World} (h : Bld B b l w) (hb : Below w.heap.size w w') (hg : w.heap.size ≤ g) (hgl : g < w'.heap.size) : Off b g w' := by
  have hlt := h.lt
  obtain ⟨hI, hBw⟩ := h
  have key : ∀ p0, Lib.BuilderAt 55 5 B b p0 (Lib.byteCells l) w → Off b g w' := by
    rintro p0 ⟨hB, v0, hb0, hown, hne⟩
    refine ⟨hgl, by omega, ?_⟩
    intro p v T fr hb1
    rw [hb.block b hlt, hb0] at hb1
    simp only [Option.some.injEq, Obj.cells.injEq] at hb1
    have h2 := hb1.1
    simp at h2
    rw [← h2.2]
    intro e
    have := (hown.lt g e).2
    omega
  exact hI.elim (key _) (key _)

theorem off_below {B b g : Nat} {l : List UInt8} {w w' : World} (h : Off b g w) (hb : Below w.heap.size w w') (hbl : Bld B b l w) : Off b g w' :=
  ⟨Nat.lt_of_lt_of_le h.1 hb.size, h.2.1, fun p v T fr e => h.2.2 p v T fr (by rw [← hb.block b hbl.lt]; exact e)⟩

theorem extract_of (s a : ByteArray) (p : List UInt8) (n m : Nat) (r : List UInt8) (h : L s = p ++ (L a ++ r)) (hn : n = p.length) (hm : m = n + a.size) : s.extract n m = a := by
  subst hn hm
  refine L_inj ?_
  rw [extract_L, h, List.drop_left, ← L_length a, Nat.add_sub_cancel_left, List.take_left]

theorem ix_end (a b : List UInt8) (h : (63 : UInt8) ∉ a) : ixOf [63, 61] (a ++ 63 :: 61 :: b) = some a.length := by
  induction a with
  | nil => exact ixOf_hit _ _ rfl
  | cons c a ih =>
    have hc : c ≠ 63 := fun e => h (by rw [e]; exact List.mem_cons_self)
    rw [List.cons_append, ixOf, if_neg (by simp [hc]), ih (fun e => h (List.mem_cons_of_mem _ e))]
    rfl
theorem byte_at (s : ByteArray) (p : List UInt8) (n : Nat) (c : UInt8) (r : List UInt8) (h : L s = p ++ c :: r) (hn : n = p.length) : ∃ hk : n < s.size, s[n] = c := by
  subst hn
  have hk : p.length < s.size := by rw [← L_length, h]; simp
  refine ⟨hk, ?_⟩
  have h1 := L_drop s p.length hk
  rw [h, List.drop_left] at h1
  exact (List.cons.inj h1).1.symm

set_option maxHeartbeats 4000000 in
set_option maxRecDepth 100000 in
theorem decodeHeader_c (H OUT : ByteArray) (l : List It) (w : World) (ad : Addr) (hH : L H = inR true l) (hO : L OUT = outR none l) (ho : okAll l = true) (hs : ∀ y ∈ l, y.s.size ≤ 2147483647) (h1 : H.size ≤ 274877906944) (h2 : OUT.size ≤ 274877906944) :
    Calls Tryd.prog 19 #[.pointer (some ad), .string H] w (Makes (.tuple #[.string OUT, .nilIface]) w) := by
  rcases first_view l ho hs with ⟨hst, heq⟩ | ⟨g, h, hgh, hix, hinv⟩
  · have e : H = OUT := L_inj (by rw [hH, hO, heq])
    subst e
    exact (decodeHeader_plain H w ad (by omega) (by rw [hH]; exact hst)).mono fun _ _ h => h.makes
  · obtain ⟨gb, hgb, hgbs⟩ := text_of g
    obtain ⟨hb, hhb, hhbs⟩ := text_of h
    have hsz : H.size = gb.size + hb.size := by rw [← L_length, hH, hgh, List.length_append, hgbs, hhbs]
    have EX := Lib.hid (extract_of H gb [] 0 gb.size h (by rw [hH, hgh, hgb]; rfl) rfl (by omega))
    have EY := Lib.hid (extract_of H hb g gb.size H.size [] (by rw [hH, hgh, hhb]; simp) hgbs hsz)
    have IX := Lib.hid (show ixInt (ixOf (L ⟨#[61, 63]⟩) (L H)) = (gb.size : Int) by rw [hH, hgbs]; show ixInt (ixOf [61, 63] _) = _; rw [hix]; rfl)
    have HI : Hid (Inv (L OUT) (L hb) (L gb) false) := Lib.hid (by rw [hO, hhb, hgb]; exact hinv)
    have hsz1 : gb.size ≤ H.size := by omega
    have hsz2 : hb.size ≤ H.size := by omega
    clear hH hO ho hs hgh hix hinv hgb hgbs hhb hhbs hsz
    go_enter Tryd.func19, Tryd.ntmps19
    go_wp2_with fail
    refine (zzIndex_c H _ _ (by omega) (by decide)).mono ?_
    rintro e w1 ⟨rfl, rfl⟩
    rw [IX.out]
    go_wp2_with fail
    have hbl := bld_fresh w
    rw [EX.out]
    refine (writeString_c w.heap.size w.heap.size [] gb _ hbl (by simp; omega)).mono ?_
    rintro e w1 ⟨rfl, hbl1, hb1, _⟩
    rw [List.nil_append] at hbl1
    have B1 : Below w.heap.size w w1 := ((Below.refl _ w).alloc (Nat.le_refl _) _).trans hb1
    go_wp2_with fail
    rw [EY.out]
    go_loopw [1, 4, 5, 8] (fun hv _ _ bv wr => ∃ (hd : ByteArray) (acc : List UInt8) (b : Bool), hv = .string hd ∧ bv = .bool b ∧ Inv (L OUT) (L hd) acc b ∧ hd.size ≤ 274877906944 ∧ Bld w.heap.size w.heap.size acc wr ∧ Below w.heap.size w wr) (fun hv _ _ _ _ => match hv with | .string hd => hd.size | _ => 0)
    case atStart => exact ⟨hb, L gb, false, rfl, rfl, HI.out, by omega, hbl1, B1⟩
    case round =>
      obtain ⟨hd, acc, b, rfl, rfl, hinv, hdz, hbl, hbel⟩ := hrel
      have hal : acc.length ≤ 274877906944 := by
        have : acc.length ≤ (L OUT).length := by
          rcases hinv with ⟨_, x, r, _, _, _, e, _⟩ | ⟨_, r, _, _, e, _⟩
          · rw [← e, List.length_append]; omega
          · rw [← e, List.length_append]; omega
        rw [L_length] at this
        omega
      rcases inv_view _ _ _ _ hinv with ⟨hix, hout⟩ | ⟨g, x, r, hxw, hxs, hgh, hix, hga, hgb, hinv'⟩
      · have IX := Lib.hid (show ixInt (ixOf (L ⟨#[61, 63]⟩) (L hd)) = -1 by show ixInt (ixOf [61, 63] _) = _; rw [hix]; rfl)
        clear hinv hix
        by_cases hz : hd.size = 0
        · have HO := Lib.hid (show (⟨acc.toArray⟩ : ByteArray) = OUT from L_inj (by rw [L_mk, ← hout, List.eq_nil_of_length_eq_zero (show (L hd).length = 0 by rw [L_length]; exact hz), List.append_nil]))
          have hz1 : ¬ (0 : Int) < (hd.size : Int) := by omega
          clear hz hout
          go_wp2_with fail
          refine (zzIndex_c hd _ _ (by omega) (by decide)).mono ?_
          rintro e w1 ⟨rfl, rfl⟩
          rw [IX.out]
          go_wp2_with fail
          refine (string_c _ _ _ _ hbl).mono ?_
          rintro e w4 ⟨rfl, hb4⟩
          rw [HO.out]
          go_wp2_with fail
          go_ret2
          exact ⟨rfl, hbel.trans hb4⟩
        · have HO := Lib.hid (show (⟨(acc ++ L hd).toArray⟩ : ByteArray) = OUT from L_inj (by rw [L_mk, hout]))
          have hz1 : (0 : Int) < (hd.size : Int) := by omega
          clear hz hout
          go_wp2_with fail
          refine (zzIndex_c hd _ _ (by omega) (by decide)).mono ?_
          rintro e w1 ⟨rfl, rfl⟩
          rw [IX.out]
          go_wp2_with fail
          refine (writeString_c _ _ acc hd _ hbl (by omega)).mono ?_
          rintro e w3 ⟨rfl, hbl3, hb3, _⟩
          go_wp2_with fail
          refine (string_c _ _ _ _ hbl3).mono ?_
          rintro e w4 ⟨rfl, hb4⟩
          rw [HO.out]
          go_wp2_with fail
          go_ret2
          exact ⟨rfl, (hbel.trans hb3).trans hb4⟩
      · obtain ⟨cs, t, how, hen, hcs, hcn, hc63, hh63, ht63, hts, hdec⟩ := word_view x hxw hxs
        obtain ⟨gb2, hgb2, hgs2⟩ := text_of g
        obtain ⟨rb, hrb, hrs⟩ := text_of (inR false r)
        have hL : L hd = g ++ (61 :: 63 :: (L cs ++ 63 :: how :: 63 :: (L t ++ 63 :: 61 :: L rb))) := by rw [hgh, hen, hrb]; simp
        have hz := congrArg List.length hL
        simp only [List.length_append, List.length_cons, L_length] at hz
        obtain ⟨s2, hs2, hs2s⟩ := text_of (L cs ++ 63 :: how :: 63 :: (L t ++ 63 :: 61 :: L rb))
        obtain ⟨s4, hs4, hs4s⟩ := text_of (L t ++ 63 :: 61 :: L rb)
        simp only [List.length_append, List.length_cons, L_length] at hs2s hs4s
        have IX := Lib.hid (show ixInt (ixOf (L ⟨#[61, 63]⟩) (L hd)) = (gb2.size : Int) by rw [hgs2]; show ixInt (ixOf [61, 63] _) = _; rw [hix]; rfl)
        have E2 := Lib.hid (extract_of hd s2 (g ++ [61, 63]) (gb2.size + 2) hd.size [] (by rw [hL, hs2]; simp) (by simp; omega) (by omega))
        have I2 := Lib.hid (show ixInt (ixOf (L ⟨#[63]⟩) (L s2)) = 5 by rw [hs2]; show ixInt (ixOf [63] _) = _; rw [ixC _ _ _ hc63, L_length, hcs]; rfl)
        have E3 := Lib.hid (extract_of hd cs (g ++ [61, 63]) (gb2.size + 2) (gb2.size + 2 + 5) (63 :: how :: 63 :: (L t ++ 63 :: 61 :: L rb)) (by rw [hL]; simp) (by simp; omega) (by omega))
        obtain ⟨k1, X1⟩ := byte_at hd (g ++ 61 :: 63 :: (L cs ++ [63])) (gb2.size + 8) how (63 :: (L t ++ 63 :: 61 :: L rb)) (by rw [hL]; simp) (by simp only [List.length_append, List.length_cons, List.length_nil, L_length]; omega)
        obtain ⟨k2, X2⟩ := byte_at hd (g ++ 61 :: 63 :: (L cs ++ [63, how])) (gb2.size + 9) 63 (L t ++ 63 :: 61 :: L rb) (by rw [hL]; simp) (by simp only [List.length_append, List.length_cons, List.length_nil, L_length]; omega)
        have E4 := Lib.hid (extract_of hd s4 (g ++ 61 :: 63 :: (L cs ++ [63, how, 63])) (gb2.size + 2 + 6 + 1 + 1) hd.size [] (by rw [hL, hs4]; simp) (by simp only [List.length_append, List.length_cons, List.length_nil, L_length]; omega) (by omega))
        have I4 := Lib.hid (show ixInt (ixOf (L ⟨#[63, 61]⟩) (L s4)) = (t.size : Int) by rw [hs4]; show ixInt (ixOf [63, 61] _) = _; rw [ix_end _ _ ht63, L_length]; rfl)
        have E5 := Lib.hid (extract_of hd t (g ++ 61 :: 63 :: (L cs ++ [63, how, 63])) (gb2.size + 2 + 6 + 1 + 1) (gb2.size + 2 + 6 + 1 + 1 + t.size) (63 :: 61 :: L rb) (by rw [hL]; simp) (by simp only [List.length_append, List.length_cons, List.length_nil, L_length]; omega) rfl)
        have E6 := Lib.hid (extract_of hd rb (g ++ 61 :: 63 :: (L cs ++ 63 :: how :: 63 :: (L t ++ [63, 61]))) (gb2.size + 2 + 6 + 1 + 1 + t.size + 2) hd.size [] (by rw [hL]; simp) (by simp only [List.length_append, List.length_cons, List.length_nil, L_length]; omega) (by omega))
        have E7 := Lib.hid (extract_of hd gb2 [] 0 gb2.size (61 :: 63 :: (L cs ++ 63 :: how :: 63 :: (L t ++ 63 :: 61 :: L rb))) (by rw [hL, hgb2]; rfl) rfl (by omega))
        have z1 : hd.size ≤ gb2.size + t.size + rb.size + 12 := by omega
        have z2 : gb2.size + t.size + rb.size + 12 ≤ hd.size := by omega
        have z3 : s2.size ≤ hd.size := by omega
        have z4 : s4.size ≤ hd.size := by omega
        have g1 : gb2.size ≤ g.length := by omega
        have g2 : g.length ≤ gb2.size := by omega
        have hne : ((how.toNat : Int) == 63) = false := beq_no how 63 63 rfl hh63
        have SL1 : ∀ w, (Instr.slice 9 (.string hd) (some (.int .i64 ((gb2.size : Int) + 2))) (some (.int .i64 ((gb2.size : Int) + 2 + 5))) none).run Tryd.prog w = .ok (.string cs) w := fun w => by
          have := slice_eq hd (gb2.size + 2) 5 (by omega) w
          rw [E3.out] at this
          exact this
        have SL2 : ∀ w, (Instr.slice 9 (.string hd) (some (.int .i64 ((gb2.size : Int) + 2 + 6 + 1 + 1))) (some (.int .i64 ((gb2.size : Int) + 2 + 6 + 1 + 1 + (t.size : Int)))) none).run Tryd.prog w = .ok (.string t) w := fun w => by
          have := slice_eq hd (gb2.size + 2 + 6 + 1 + 1) t.size (by omega) w
          rw [E5.out] at this
          exact this
        have HD := Lib.hid hdec
        have HC := Lib.hid hcn
        have HN : Hid (Inv (L OUT) (L rb) (acc ++ (if says b g = true then g else []) ++ L x.s) true) := Lib.hid (by rw [hrb]; exact hinv')
        have HG := Lib.hid (And.intro hgb2 (And.intro hga hgb))
        clear hinv hinv' hix hgh hen hcs hcn hc63 ht63 hdec hgb2 hrb hrs hL hz hs2 hs2s hs4 hs4s hga hgb hxw hgs2 hh63
        by_cases hn : gb2.size = 0
        · have hn1 : gb2.size ≤ 0 := by omega
          have hsy := Lib.hid (show says b g = false by unfold says; rw [List.eq_nil_of_length_eq_zero (show g.length = 0 by omega)]; rfl)
          have hpos : decide (0 < gb2.size) = false := decide_eq_false (by omega)
          clear hn
          go_wp2_with fail
          refine (zzIndex_c hd _ _ (by omega) (by decide)).mono ?_
          rintro e w1 ⟨rfl, rfl⟩
          rw [IX.out]
          go_wp2_with fail
          rw [E2.out]
          refine (zzIndex_c s2 _ _ (by omega) (by decide)).mono ?_
          rintro e w1 ⟨rfl, rfl⟩
          rw [I2.out]
          go_wp2_with fail
          rw [E4.out]
          refine (zzIndex_c s4 _ _ (by omega) (by decide)).mono ?_
          rintro e w1 ⟨rfl, rfl⟩
          rw [I4.out]
          go_wp2_with fail
          refine (HD.out _).mono ?_
          rintro e w2 ⟨gg, q, rfl, hg, hf, hb2⟩
          have hbl2 := hbl.below hb2
          have hoff := hbl.off_new hb2 hg (fills_lt hf)
          have hb2' := hb2.mono hbel.size
          go_wp2_with fail
          refine (convert_utf8 _ _ _ gg 0 q acc (L x.s) cs _ HC.out hbl2 hoff hf.lies (by rw [L_length]; omega)).mono ?_
          rintro e w3 ⟨rfl, hbl3, hb3⟩
          go_wp2_with fail
          rw [E6.out]
          go_roundw
          case rel => exact ⟨rb, acc ++ L x.s, true, rfl, rfl, by have := HN.out; rw [hsy.out] at this; simpa using this, by omega, hbl3, (hbel.trans hb2').trans hb3⟩
          case measure => show rb.size < hd.size; omega
        · have hpos : decide (0 < gb2.size) = true := decide_eq_true (by omega)
          have hg0 : g ≠ [] := fun e => by have := congrArg List.length e; simp only [List.length_nil] at this; omega
          obtain rfl : b = true := HG.out.2.2 hg0
          clear hn
          cases hws : allB wsB g
          · have hsy := Lib.hid (show says true g = true by unfold says; rw [hws]; cases g with | nil => exact absurd rfl hg0 | cons _ _ => rfl)
            have HWS := Lib.hid hws
            clear hws hg0
            go_wp2_with fail
            refine (zzIndex_c hd _ _ (by omega) (by decide)).mono ?_
            rintro e w1 ⟨rfl, rfl⟩
            rw [IX.out]
            go_wp2_with fail
            rw [E2.out]
            refine (zzIndex_c s2 _ _ (by omega) (by decide)).mono ?_
            rintro e w1 ⟨rfl, rfl⟩
            rw [I2.out]
            go_wp2_with fail
            rw [E4.out]
            refine (zzIndex_c s4 _ _ (by omega) (by decide)).mono ?_
            rintro e w1 ⟨rfl, rfl⟩
            rw [I4.out]
            go_wp2_with fail
            refine (HD.out _).mono ?_
            rintro e w2 ⟨gg, q, rfl, hg, hf, hb2⟩
            have hbl2 := hbl.below hb2
            have hoff := hbl.off_new hb2 hg (fills_lt hf)
            have hb2' := hb2.mono hbel.size
            go_wp2_with fail
            rw [E7.out]
            refine (nonws_c gb2 _ (by rw [HG.out.1]; exact HG.out.2.1)).mono ?_
            rintro e w3 ⟨rfl, hb3⟩
            rw [HG.out.1, HWS.out]
            have hbl3 := hbl2.below hb3
            have hoff3 := off_below hoff hb3 hbl2
            have hf3 := hf.below hb3
            have hb3' := hb3.mono (Nat.le_trans hbel.size hb2.size)
            go_wp2_with fail
            rw [E7.out]
            refine (writeString_c _ _ acc gb2 _ hbl3 (by omega)).mono ?_
            rintro e w4 ⟨rfl, hbl4, hb4, hk4⟩
            obtain ⟨hk5, hoff4⟩ := hk4 gg hoff3
            have hl4 := hf3.lies.of_heap hk5
            go_wp2_with fail
            refine (convert_utf8 _ _ _ gg 0 q (acc ++ L gb2) (L x.s) cs _ HC.out hbl4 hoff4 hl4 (by rw [List.length_append, L_length, L_length]; omega)).mono ?_
            rintro e w5 ⟨rfl, hbl5, hb5⟩
            go_wp2_with fail
            rw [E6.out]
            go_roundw
            case rel => exact ⟨rb, acc ++ L gb2 ++ L x.s, true, rfl, rfl, by have := HN.out; rw [hsy.out] at this; rw [HG.out.1]; simpa using this, by omega, hbl5, (((hbel.trans hb2').trans hb3').trans hb4).trans hb5⟩
            case measure => show rb.size < hd.size; omega
          · have hsy := Lib.hid (show says true g = false by unfold says; rw [hws]; simp)
            have HWS := Lib.hid hws
            clear hws hg0
            go_wp2_with fail
            refine (zzIndex_c hd _ _ (by omega) (by decide)).mono ?_
            rintro e w1 ⟨rfl, rfl⟩
            rw [IX.out]
            go_wp2_with fail
            rw [E2.out]
            refine (zzIndex_c s2 _ _ (by omega) (by decide)).mono ?_
            rintro e w1 ⟨rfl, rfl⟩
            rw [I2.out]
            go_wp2_with fail
            rw [E4.out]
            refine (zzIndex_c s4 _ _ (by omega) (by decide)).mono ?_
            rintro e w1 ⟨rfl, rfl⟩
            rw [I4.out]
            go_wp2_with fail
            refine (HD.out _).mono ?_
            rintro e w2 ⟨gg, q, rfl, hg, hf, hb2⟩
            have hbl2 := hbl.below hb2
            have hoff := hbl.off_new hb2 hg (fills_lt hf)
            have hb2' := hb2.mono hbel.size
            go_wp2_with fail
            rw [E7.out]
            refine (nonws_c gb2 _ (by rw [HG.out.1]; exact HG.out.2.1)).mono ?_
            rintro e w3 ⟨rfl, hb3⟩
            rw [HG.out.1, HWS.out]
            have hbl3 := hbl2.below hb3
            have hoff3 := off_below hoff hb3 hbl2
            have hf3 := hf.below hb3
            have hb3' := hb3.mono (Nat.le_trans hbel.size hb2.size)
            go_wp2_with fail
            refine (convert_utf8 _ _ _ gg 0 q acc (L x.s) cs _ HC.out hbl3 hoff3 hf3.lies (by rw [L_length]; omega)).mono ?_
            rintro e w5 ⟨rfl, hbl5, hb5⟩
            go_wp2_with fail
            rw [E6.out]
            go_roundw
            case rel => exact ⟨rb, acc ++ L x.s, true, rfl, rfl, by have := HN.out; rw [hsy.out] at this; simpa using this, by omega, hbl5, ((hbel.trans hb2').trans hb3').trans hb5⟩
            case measure => show rb.size < hd.size; omega

theorem implDecodeHeader_c (H OUT : ByteArray) (l : List It) (w : World) (hH : L H = inR true l) (hO : L OUT = outR none l) (ho : okAll l = true) (hs : ∀ y ∈ l, y.s.size ≤ 2147483647) (h1 : H.size ≤ 274877906944) (h2 : OUT.size ≤ 274877906944) :
    Calls Tryd.prog 8 #[.string H] w (Makes (.tuple #[.string OUT, .bool true]) w) := by
  have HC := Lib.hid (fun w a => decodeHeader_c H OUT l w a hH hO ho hs h1 h2)
  clear hH hO ho hs
  go_enter Tryd.func8, Tryd.ntmps8
  go_wp2_with fail
  refine (HC.out _ _).mono ?_
  rintro e w1 ⟨rfl, hb1⟩
  go_wp2_with fail
  go_quiet (fail)
  go_wp2
  go_ret2
  exact ⟨rfl, below_drewN (((Below.refl _ _).alloc (Nat.le_refl _) _).trans (hb1.mono (by simp))) _⟩

theorem inR_len (f : Bool) (l : List It) (n : Nat) (h : (l.map fun x => x.s.size).sum ≤ n) : (inR f l).length ≤ 3 * n + 20 * l.length := by
  induction l generalizing f n with
  | nil => simp [inR]
  | cons x r ih =>
    have ih' := ih false (n - x.s.size) (by simp at h; omega)
    have he : (encI x).length ≤ 3 * x.s.size + 16 := by
      unfold encI
      split
      · split
        · unfold encQ
          have := qtext_len (signsOf (L x.s))
          have e : (signsOf (L x.s)).length = x.s.size := by rw [signsOf, List.length_map, L_length]
          simp only [List.length_cons, List.length_append, List.length_nil]
          omega
        · unfold encB
          have := b64_len (L x.s)
          rw [L_length] at this
          simp only [List.length_cons, List.length_append, List.length_nil]
          omega
      · rw [L_length]; omega
    rw [inR, List.length_append, List.length_append, List.length_cons]
    have h1 : (if f = true then ([] : List UInt8) else [32]).length ≤ 1 := by split <;> simp
    simp at h
    omega
theorem outR_len (p : Option Bool) (l : List It) (n : Nat) (h : (l.map fun x => x.s.size).sum ≤ n) : (outR p l).length ≤ n + l.length := by
  induction l generalizing p n with
  | nil => simp [outR]
  | cons x r ih =>
    have ih' := ih (some x.wd) (n - x.s.size) (by simp at h; omega)
    rw [outR, List.length_append, List.length_append, List.length_cons, L_length]
    have h1 : (sepO p x.wd).length ≤ 1 := by
      cases p with
      | none => simp [sepO]
      | some p => cases p <;> cases x.wd <;> simp [sepO]
    simp at h
    omega

theorem sum_mem (l : List It) (y : It) (h : y ∈ l) : y.s.size ≤ (l.map fun x => x.s.size).sum := by
  induction l with
  | nil => cases h
  | cons x r ih =>
    rw [List.map_cons, List.sum_cons]
    rcases List.mem_cons.1 h with rfl | h
    · omega
    · have := ih h; omega

theorem fnExactHeader_walk (v : Value) (l : List It) (w : World) (hv : Items v l w) (hl : l.length ≤ 1048576) (hs : (l.map fun x => x.s.size).sum ≤ 1048576) (hT : Lib.Utf8Tabs 0 1 w) :
    Calls Tryd.prog 6 #[v] w (Makes (.bool true) w) := by
  have each : ∀ y ∈ l, y.s.size ≤ 2147483647 := fun y hy => by
    have := sum_mem l y hy
    omega
  obtain ⟨IN, hi, his⟩ := text_of (inR true l)
  obtain ⟨OUT, ho, hos⟩ := text_of (outR none l)
  have z1 := inR_len true l _ hs
  have z2 := outR_len none l _ hs
  have H1 := Lib.hid (fun w (hv : Items v l w) => zzFits5_c v l w hv (by omega) each)
  have HV := Lib.hid hv
  have HT := Lib.hid hT
  have H2 := Lib.hid (fun w (hv : Items v l w) hT => clean_c v l w hv (by omega) each hT)
  have H3 := Lib.hid (fun w (hv : Items v l w) => header_c v l w IN OUT hv (by omega) each hi ho (by omega) (by omega))
  have H4 := Lib.hid (fun w (hok : okAll l = true) => implDecodeHeader_c IN OUT l w hi ho hok each (by omega) (by omega))
  clear each hi his ho hos z1 z2 hs hv hT
  obtain ⟨p, c, rfl, _⟩ := HV.out
  cases hok : okAll l
  · have HO := Lib.hid hok
    clear hok
    go_enter Tryd.func6, Tryd.ntmps6
    go_wp2_with fail
    refine (H1.out _ HV.out).mono ?_
    rintro e w1 ⟨rfl, hb1⟩
    go_wp2_with fail
    refine (H2.out _ (HV.out.below hb1) (Utf8Tabs_below HT.out hb1)).mono ?_
    rintro e w2 ⟨rfl, hb2⟩
    rw [HO.out]
    go_wp2_with fail
    go_ret
    exact ⟨rfl, hb1.trans (hb2.mono hb1.size)⟩
  · have HO := Lib.hid hok
    clear hok
    go_enter Tryd.func6, Tryd.ntmps6
    go_wp2_with fail
    refine (H1.out _ HV.out).mono ?_
    rintro e w1 ⟨rfl, hb1⟩
    go_wp2_with fail
    refine (H2.out _ (HV.out.below hb1) (Utf8Tabs_below HT.out hb1)).mono ?_
    rintro e w2 ⟨rfl, hb2⟩
    rw [HO.out]
    have B2 := hb1.trans (hb2.mono hb1.size)
    go_wp2_with fail
    refine (H3.out _ (HV.out.below B2)).mono ?_
    rintro e w3 ⟨rfl, hb3⟩
    have B3 := B2.trans (hb3.mono B2.size)
    go_wp2_with fail
    refine (H4.out _ HO.out).mono ?_
    rintro e w4 ⟨rfl, hb4⟩
    go_wp2_with fail
    go_ret
    exact ⟨rfl, B3.trans (hb4.mono B3.size)⟩
end Go.Proofs.YtlapehcngmiaaaaDoor
