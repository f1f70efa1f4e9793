/-
  CONTRACT OF spec's Header: the text of items and what it says, as lists of bytes.
-/
import Derived.Test.YtlapehcngmiaaaaDoorItem
import Derived.Test.YtlapehcngmiaaaaDoorSign
import Derived.Test.YtlapehcngmiaaaaDoorBText
import Derived.Test.YtlapehcngmiaaaaDoorCnt
namespace Go.Proofs.YtlapehcngmiaaaaDoor
open Go.RowKit
attribute [local go_sem ↓] Go.wp_at_zero Go.wp_at_succ

/-- The signs of a text, each as it comes. -/
def signsOf (s : List UInt8) : List Sg := s.map fun b => ⟨b, false, false⟩
/-- An item as it is written. -/
def encQ (s : List UInt8) : List UInt8 := 61 :: 63 :: ([117, 116, 102, 45, 56] ++ 63 :: 113 :: 63 :: (qtext (signsOf s) ++ [63, 61]))
def encB (s : List UInt8) : List UInt8 := 61 :: 63 :: ([85, 84, 70, 45, 56] ++ 63 :: 66 :: 63 :: (b64 s ++ [63, 61]))
def encI (x : It) : List UInt8 := if x.wd = true then (if x.q = true then encQ (L x.s) else encB (L x.s)) else L x.s
def inR : Bool → List It → List UInt8
  | _, [] => []
  | f, x :: r => (if f = true then [] else [32]) ++ (encI x ++ inR false r)
def sepO : Option Bool → Bool → List UInt8
  | none, _ => []
  | some p, b => if (p && b) = true then [] else [32]
def outR : Option Bool → List It → List UInt8
  | _, [] => []
  | p, x :: r => sepO p x.wd ++ (L x.s ++ outR (some x.wd) r)

theorem L32 : L ⟨#[32]⟩ = [32] := rfl
/-- A row of signs of the call's own. -/
def sgC (x : Sg) : List Value := [.int .u8 (x.b.toNat : Int), .bool x.esc, .bool x.sm]
def OwnS (B : Nat) (v : Value) (l : List Sg) (w : World) : Prop := w.ownsRow B 46 3 v l.length (l.flatMap sgC) ∧ B ≤ w.heap.size
theorem OwnS.nil' {w : World} {B : Nat} (h : B ≤ w.heap.size) : OwnS B (.slice none 0 0) [] w := ⟨World.ownsRow_nil _ _ _ _, h⟩
theorem sgC_at (l : List Sg) (i : Nat) (x : Sg) (h : l[i]? = some x) (j : Nat) (hj : j < 3) : (l.flatMap sgC)[i * 3 + j]? = (sgC x)[j]? := by
  induction l generalizing i with
  | nil => cases h
  | cons y r ih =>
    rw [List.flatMap_cons]
    cases i with
    | zero =>
      simp only [List.getElem?_cons_zero, Option.some.injEq] at h
      subst h
      rw [Nat.zero_mul, Nat.zero_add, List.getElem?_append_left (by simp [sgC]; omega)]
    | succ i =>
      rw [List.getElem?_append_right (by simp [sgC]; omega)]
      simp only [List.getElem?_cons_succ] at h
      rw [← ih i h]
      congr 1
      simp [sgC]
      omega
theorem OwnS.signs {B : Nat} {v : Value} {l : List Sg} {w : World} (h : OwnS B v l w) : Signs v l w := by
  rcases h.1.2 with ⟨rfl, h0⟩ | ⟨g, cap, cur, hv, _, hcur, h1, h2, h3, h4⟩
  · have : l = [] := List.eq_nil_of_length_eq_zero h0
    subst this
    exact ⟨none, 0, rfl, Nat.le_refl _, Nat.zero_le _, .inl rfl⟩
  · refine ⟨_, cap, hv, h1, h2, .inr ⟨g, 0, rfl, ?_, fun i x hi => ?_⟩⟩
    · rcases Nat.lt_or_ge g w.heap.size with h5 | h5
      · exact h5
      · rw [Array.getElem?_eq_none h5] at hcur; cases hcur
    · have hil := (List.getElem?_eq_some_iff.1 hi).1
      have key : ∀ j, j < 3 → w.cell? ⟨g, 0 + i * 3 + j, none⟩ = (sgC x)[j]? := fun j hj => by
        rw [Lib.cell_of_heap hcur, ← sgC_at l i x hi j hj, ← h4, ← Array.getElem?_toList, Nat.zero_add, List.getElem?_take_of_lt (by omega)]
      exact ⟨key 0 (by omega), key 1 (by omega), key 2 (by omega)⟩
theorem signInfo : (Tryd.prog.info? 46).map (fun i => (i.zero, i.size, i.bytes)) = some (some (.agg #[.int .u8 0, .bool false, .bool false]), 3, 3) := by kernel_rfl
theorem append_sign {ops : Array Oper} {rest : List Oper} {o : Oper} {a : Act} {Q : Exit → Act → World → Prop} {w : World} (hgd : o.guard = none) (s x : Operand)
    (ho : o.op = .call { callee := .builtin .append, args := #[s, x], argTypes := #[30, 30] })
    (B : Nat) (v : Value) (l : List Sg) (c : UInt8) (hs : a.eval s = v) (hown : OwnS B v l w) (hx : a.eval x = .slice (some ⟨w.heap.size, 0, none⟩) 1 1)
    (hlen : l.length + 1 ≤ 4294967296)
    (h : ∀ v' w', OwnS B v' (l ++ [⟨c, false, false⟩]) w' → Below B w w' → w.heap.size ≤ w'.heap.size → wpList Tryd.prog ops Q rest (a.put o.dst v') w') :
    wpList Tryd.prog ops Q (o :: rest) a (w.alloc (.cells #[.int .u8 (c.toNat : Int), .bool false, .bool false] 46)) := by
  obtain ⟨i0, hi, hz0, hz1, hz2⟩ : ∃ i0, Tryd.prog.info? 46 = some i0 ∧ i0.zero = some (.agg #[.int .u8 0, .bool false, .bool false]) ∧ i0.size = 3 ∧ i0.bytes = 3 := by
    obtain ⟨i0, hi, hj⟩ := Option.map_eq_some_iff.1 signInfo
    simp only [Prod.mk.injEq] at hj
    exact ⟨i0, hi, hj⟩
  refine wpList_append_own _ hgd s x 30 ho B 46 i0 _ 3 3 Tryd.underlying30 hi hz0 hz1 hz2 rfl (by decide) v l.length (l.flatMap sgC) hs (hown.1.alloc _) ⟨w.heap.size, 0, none⟩ 1 1 (sgC ⟨c, false, false⟩) hx rfl ?_ ?_ (by unfold maxLen; omega) (by omega) (by have := hown.2; simp; omega) ?_
  · intro j u hj
    have e : ((⟨w.heap.size, 0, none⟩ : Addr).add j) = ⟨w.heap.size, j, none⟩ := by simp only [Addr.add]; split <;> simp_all
    rw [e, Lib.cell_of_heap (heap_alloc_new w _), ← Array.getElem?_toList]
    exact hj
  · intro u hu; simp [sgC] at hu; rcases hu with rfl | rfl | rfl <;> rfl
  · intro v' w' hown' hgrow _
    have hsz := hgrow.size
    simp only [World.size_alloc] at hsz
    refine h v' w' ⟨?_, by have := hown.2; omega⟩ (((Below.refl B w).alloc hown.2 _).grown hgrow (by have := hown.2; simp; omega) (fun k hk => (hown.1.lt k hk).1)) (by omega)
    rw [List.flatMap_append, List.length_append]
    simpa using hown'

theorem inR_at (l : List It) (k : Nat) (f : Bool) (x : It) (h : l[k]? = some x) : inR f (l.drop k) = (if f = true then [] else [32]) ++ (encI x ++ inR false (l.drop (k + 1))) := by
  obtain ⟨hk, hx⟩ := List.getElem?_eq_some_iff.1 h
  rw [List.drop_eq_getElem_cons hk, hx]; rfl
theorem outR_at (l : List It) (k : Nat) (p : Option Bool) (x : It) (h : l[k]? = some x) : outR p (l.drop k) = sepO p x.wd ++ (L x.s ++ outR (some x.wd) (l.drop (k + 1))) := by
  obtain ⟨hk, hx⟩ := List.getElem?_eq_some_iff.1 h
  rw [List.drop_eq_getElem_cons hk, hx]; rfl
/-- What stands ahead of item k. -/
def Prev (l : List It) (k : Nat) (p : Option Bool) : Prop := (k = 0 ∧ p = none) ∨ ∃ y, 0 < k ∧ l[k - 1]? = some y ∧ p = some y.wd
theorem signs_take (t : ByteArray) (j : Nat) (h : j < t.size) : signsOf ((L t).take (j + 1)) = signsOf ((L t).take j) ++ [⟨t[j], false, false⟩] := by
  have e : (L t)[j]? = some t[j] := by
    have := L_drop t j h
    have h2 : (L t)[j]? = ((L t).drop j)[0]? := by rw [List.getElem?_drop]; rfl
    rw [h2, this]; rfl
  unfold signsOf
  rw [List.take_add_one, e]
  simp

set_option maxHeartbeats 4000000 in
set_option maxRecDepth 100000 in
theorem header_c (v : Value) (l : List It) (w : World) (IN OUT : ByteArray) (hv : Items v l w) (hl : l.length ≤ 2147483647) (hs : ∀ x ∈ l, x.s.size ≤ 2147483647) (hi : L IN = inR true l) (ho : L OUT = outR none l) (hi1 : IN.size ≤ 274877906944) (ho1 : OUT.size ≤ 274877906944) :
    Calls Tryd.prog 18 #[v] w (Makes (.tuple #[.string IN, .string OUT]) w) := by
  obtain ⟨p, c, rfl, hc1, hc2, hcells⟩ := hv
  have HS := Lib.hid hs
  have HI := Lib.hid hi
  have HO := Lib.hid ho
  clear hs hi ho
  go_enter Tryd.func18, Tryd.ntmps18
  go_wp2
  go_loopw [4, 5, 8, 9, 12] (fun a b _ _ i wr => ∃ (k : Nat) (sa sb : ByteArray) (f : Bool) (p : Option Bool), k ≤ l.length ∧ i = .int .i64 k ∧ a = .string sa ∧ b = .string sb ∧ f = decide (k = 0) ∧ Prev l k p ∧ L sa ++ inR f (l.drop k) = L IN ∧ L sb ++ outR p (l.drop k) = L OUT ∧ Below w.heap.size w wr) (fun _ _ _ _ i _ => l.length - (intOf i).toNat)
  case atStart => exact ⟨0, ⟨#[]⟩, ⟨#[]⟩, true, none, Nat.zero_le _, rfl, rfl, rfl, rfl, .inl ⟨rfl, rfl⟩, HI.out.symm, HO.out.symm, Below.refl _ _⟩
  case round =>
    obtain ⟨k, sa, sb, f, p, hk, rfl, rfl, rfl, hf, hp, hin, hout, hbel⟩ := hrel
    by_cases hlt : k < l.length
    · obtain ⟨⟨wd, q, t⟩, hx⟩ : ∃ x, l[k]? = some x := ⟨l[k], List.getElem?_eq_getElem hlt⟩
      have hz := HS.out _ (List.mem_of_getElem? hx)
      rw [inR_at l k f _ hx] at hin
      rw [outR_at l k p _ hx] at hout
      have z1 := congrArg List.length hin
      have z2 := congrArg List.length hout
      simp only [List.length_append, L_length] at z1 z2
      have sa1 : sa.size ≤ 274877906944 := by omega
      have sb1 : sb.size ≤ 274877906944 := by omega
      clear z1 z2
      rcases hcells with rfl | ⟨g, o, rfl, hg, hcells⟩
      · simp at hlt
      obtain ⟨h0, h1, h2⟩ := hcells k _ hx
      have a0 := (hbel.cell (p := ⟨g, o + k * 3, none⟩) hg).trans h0
      have a1 := (hbel.cell (p := ⟨g, o + k * 3 + 1, none⟩) hg).trans h1
      have a2 := (hbel.cell (p := ⟨g, o + k * 3 + 2, none⟩) hg).trans h2
      simp only at a0 a1 a2 hz hin hout
      have HX := Lib.hid (show l[k + 1 - 1]? = some ⟨wd, q, t⟩ by rw [Nat.add_sub_cancel]; exact hx)
      clear h0 h1 h2 hx
      have hbs := hbel.size
      by_cases hk0 : k = 0
      · obtain rfl : f = true := by rw [hf, hk0]; rfl
        obtain rfl : p = none := by rcases hp with ⟨_, h⟩ | ⟨y, h, _⟩; exact h; omega
        simp only [if_true, List.nil_append, sepO] at hin hout
        have t0 : ¬ (0 : Int) < (k : Int) := by omega
        have hk1 : k ≤ 0 := by omega
        clear hf hp hcells hk0
        cases wd
        · have HIN := Lib.hid (show L (sa ++ t) ++ inR false (l.drop (k + 1)) = L IN by rw [← hin, append_L]; simp [encI])
          have HOUT := Lib.hid (show L (sb ++ t) ++ outR (some false) (l.drop (k + 1)) = L OUT by rw [← hout, append_L]; simp)
          clear hin hout
          go_wp2_with fail
          go_roundw
          case rel => exact ⟨k + 1, _, _, false, some false, by omega, by go_num, rfl, rfl, by simp, .inr ⟨⟨false, q, t⟩, by omega, HX.out, rfl⟩, HIN.out, HOUT.out, hbel.alloc hbel.size _⟩
          case measure => simp [intOf]; omega
        · cases q
          · obtain ⟨wq, hwq, hwqs⟩ := text_of (encB (L t))
            obtain ⟨tq, htq, htqs⟩ := text_of (b64 (L t))
            have tq1 : tq.size ≤ 8589934592 := by rw [htqs, b64_len, L_length]; omega
            have wq1 : wq.size ≤ 17179869184 := by rw [hwqs]; unfold encB; rw [← htq]; simp only [List.length_cons, List.length_append, L_length, List.length_nil]; omega
            have HW := Lib.hid (show (⟨#[61, 63]⟩ ++ ⟨#[85, 84, 70, 45, 56]⟩ ++ ⟨#[63]⟩ ++ ⟨#[66]⟩ ++ ⟨#[63]⟩ ++ tq ++ ⟨#[63, 61]⟩ : ByteArray) = wq from L_inj (by rw [word_L, hwq, htq]; rfl))
            have HQ := Lib.hid (show (⟨(b64 (L t)).toArray⟩ : ByteArray) = tq from L_inj (by rw [L_mk, htq]))
            have HIN := Lib.hid (show L (sa ++ wq) ++ inR false (l.drop (k + 1)) = L IN by rw [← hin, append_L, hwq]; simp [encI])
            have HOUT := Lib.hid (show L (sb ++ t) ++ outR (some true) (l.drop (k + 1)) = L OUT by rw [← hout, append_L]; simp)
            clear hin hout hwq hwqs htq htqs
            go_wp2_with fail
            refine (btext_c t _ (by omega)).mono ?_
            rintro e w1 ⟨rfl, hb1⟩
            rw [HQ.out]
            have b1 := (hbel.alloc hbel.size (.cells #[.bool true, .bool false, .string t] 49)).trans (hb1.mono (by simp; omega))
            go_wp2_with fail
            refine (word_c _ _ _ _ (by decide) (by decide) (by omega)).mono ?_
            rintro e w2 ⟨rfl, rfl⟩
            rw [HW.out]
            go_wp2_with fail
            go_roundw
            case rel => exact ⟨k + 1, _, _, false, some true, by omega, by go_num, rfl, rfl, by simp, .inr ⟨⟨true, false, t⟩, by omega, HX.out, rfl⟩, HIN.out, HOUT.out, b1⟩
            case measure => simp [intOf]; omega
          · obtain ⟨wq, hwq, hwqs⟩ := text_of (encQ (L t))
            obtain ⟨tq, htq, htqs⟩ := text_of (qtext (signsOf (L t)))
            have tq1 : tq.size ≤ 8589934592 := by rw [htqs]; have := qtext_len (signsOf (L t)); rw [signsOf, List.length_map, L_length] at this; unfold signsOf; omega
            have wq1 : wq.size ≤ 17179869184 := by rw [hwqs]; unfold encQ; rw [← htq]; simp only [List.length_cons, List.length_append, L_length, List.length_nil]; omega
            have HW := Lib.hid (show (⟨#[61, 63]⟩ ++ ⟨#[117, 116, 102, 45, 56]⟩ ++ ⟨#[63]⟩ ++ ⟨#[113]⟩ ++ ⟨#[63]⟩ ++ tq ++ ⟨#[63, 61]⟩ : ByteArray) = wq from L_inj (by rw [word_L, hwq, htq]; rfl))
            have HQ := Lib.hid (show (⟨(qtext (signsOf (L t))).toArray⟩ : ByteArray) = tq from L_inj (by rw [L_mk, htq]))
            have HIN := Lib.hid (show L (sa ++ wq) ++ inR false (l.drop (k + 1)) = L IN by rw [← hin, append_L, hwq]; simp [encI])
            have HOUT := Lib.hid (show L (sb ++ t) ++ outR (some true) (l.drop (k + 1)) = L OUT by rw [← hout, append_L]; simp)
            clear hin hout hwq hwqs htq htqs
            have b1 := hbel.alloc hbel.size (.cells #[.bool true, .bool true, .string t] 49)
            have n1 := heap_alloc_new wr (.cells #[.bool true, .bool true, .string t] 49)
            obtain ⟨w0, hw0⟩ : ∃ w0, w0 = wr.alloc (.cells #[.bool true, .bool true, .string t] 49) := ⟨_, rfl⟩
            have s1 : w0.heap.size = wr.heap.size + 1 := by rw [hw0]; simp
            rw [← hw0] at b1 n1
            have HW0 := Lib.hid hw0
            have N1 := Lib.hid n1
            clear hw0 n1
            go_wp2_with fail
            rw [← HW0.out]
            have dk : ∀ wi, Below (wr.heap.size + 1) w0 wi → wi.cell? ⟨wr.heap.size, 2, none⟩ = some (.string t) := fun wi hbi => (hbi.cell (p := ⟨wr.heap.size, 2, none⟩) (Nat.lt_succ_self _)).trans (by rw [Lib.cell_of_heap N1.out]; rfl)
            go_loopw [8, 9] (fun sv i wi => ∃ (j : Nat) (ss : List Sg), j ≤ t.size ∧ i = .int .i64 j ∧ ss.length = j ∧ ss = signsOf ((L t).take j) ∧ OwnS (wr.heap.size + 1) sv ss wi ∧ Below (wr.heap.size + 1) w0 wi) (fun _ i _ => t.size - (intOf i).toNat)
            case atStart => exact ⟨0, [], Nat.zero_le _, rfl, rfl, rfl, OwnS.nil' (by omega), Below.refl _ _⟩
            case round =>
              obtain ⟨j, ss, hj, rfl, hsl, hss, hown, hbi⟩ := hrel
              have d2 := dk _ hbi
              have HSS := Lib.hid hss
              clear hss
              by_cases hjt : j < t.size
              · have HT := Lib.hid (signs_take t j hjt)
                go_wp2_with (at_builtin; refine append_sign rfl _ _ rfl _ _ ss _ rfl hown rfl (by omega) ?_; intro v2 w2 hown2 hb2 hz2)
                go_wp2_with fail
                go_roundw
                case rel => exact ⟨j + 1, _, by omega, by go_num, by simp; omega, by rw [HT.out, ← HSS.out], hown2, hbi.trans hb2⟩
                case measure => simp [intOf]; omega
              · have HE := Lib.hid (show ss = signsOf (L t) by rw [HSS.out, List.take_of_length_le (by rw [L_length]; omega)])
                go_wp2_with fail
                refine (qtext_c _ ss _ hown.signs (by omega)).mono ?_
                rintro e w1 ⟨rfl, hb1⟩
                rw [HE.out, HQ.out]
                have b2 : Below w.heap.size w w1 := (b1.trans (hbi.mono (by omega))).trans (hb1.mono (by have := hbi.size; omega))
                go_wp2_with fail
                refine (word_c _ _ _ _ (by decide) (by decide) (by omega)).mono ?_
                rintro e w2 ⟨rfl, rfl⟩
                rw [HW.out]
                go_wp2_with fail
                go_roundw
                case rel => exact ⟨k + 1, _, _, false, some true, by omega, by go_num, rfl, rfl, by simp, .inr ⟨⟨true, true, t⟩, by omega, HX.out, rfl⟩, HIN.out, HOUT.out, b2⟩
                case measure => simp [intOf]; omega
      · obtain rfl : f = false := by rw [hf]; simpa using hk0
        obtain ⟨⟨wd', q', t'⟩, hy, rfl⟩ : ∃ y, l[k - 1]? = some y ∧ p = some y.wd := by rcases hp with ⟨h, _⟩ | ⟨y, _, h, h'⟩; exact absurd h hk0; exact ⟨y, h, h'⟩
        have e0 := (hbel.cell (p := ⟨g, o + (k - 1) * 3, none⟩) hg).trans (hcells (k - 1) _ hy).1
        simp only [Bool.false_eq_true, if_false, sepO] at hin hout
        simp only at e0
        have t0 : (0 : Int) < (k : Int) := by omega
        have t1 : decide (0 < k) = true := decide_eq_true (by omega)
        have e1 : ∀ ob, (wr.alloc ob).cell? ⟨g, o + (k - 1) * 3, none⟩ = some (.bool wd') := fun ob => (((Below.refl wr.heap.size wr).alloc (Nat.le_refl _) ob).cell (p := ⟨g, o + (k - 1) * 3, none⟩) (Nat.lt_of_lt_of_le hg hbs)).trans e0
        clear hf hp hcells hy
        cases wd
        · simp only [Bool.and_false, Bool.false_eq_true, if_false] at hout
          have HIN := Lib.hid (show L (sa ++ ⟨#[32]⟩ ++ t) ++ inR false (l.drop (k + 1)) = L IN by rw [← hin, append_L, append_L]; simp [encI, L32])
          have HOUT := Lib.hid (show L (sb ++ ⟨#[32]⟩ ++ t) ++ outR (some false) (l.drop (k + 1)) = L OUT by rw [← hout, append_L, append_L]; simp [L32])
          clear hin hout
          go_wp2_with fail
          go_roundw
          case rel => exact ⟨k + 1, _, _, false, some false, by omega, by go_num, rfl, rfl, by simp, .inr ⟨⟨false, q, t⟩, by omega, HX.out, rfl⟩, HIN.out, HOUT.out, hbel.alloc hbel.size _⟩
          case measure => simp [intOf]; omega
        · cases wd'
          · cases q
            · simp only [Bool.and_true, Bool.false_eq_true, if_false] at hout
              obtain ⟨wq, hwq, hwqs⟩ := text_of (encB (L t))
              obtain ⟨tq, htq, htqs⟩ := text_of (b64 (L t))
              have tq1 : tq.size ≤ 8589934592 := by rw [htqs, b64_len, L_length]; omega
              have wq1 : wq.size ≤ 17179869184 := by rw [hwqs]; unfold encB; rw [← htq]; simp only [List.length_cons, List.length_append, L_length, List.length_nil]; omega
              have HW := Lib.hid (show (⟨#[61, 63]⟩ ++ ⟨#[85, 84, 70, 45, 56]⟩ ++ ⟨#[63]⟩ ++ ⟨#[66]⟩ ++ ⟨#[63]⟩ ++ tq ++ ⟨#[63, 61]⟩ : ByteArray) = wq from L_inj (by rw [word_L, hwq, htq]; rfl))
              have HQ := Lib.hid (show (⟨(b64 (L t)).toArray⟩ : ByteArray) = tq from L_inj (by rw [L_mk, htq]))
              have HIN := Lib.hid (show L (sa ++ ⟨#[32]⟩ ++ wq) ++ inR false (l.drop (k + 1)) = L IN by rw [← hin, append_L, append_L, hwq]; simp [encI, L32])
              have HOUT := Lib.hid (show L (sb ++ ⟨#[32]⟩ ++ t) ++ outR (some true) (l.drop (k + 1)) = L OUT by rw [← hout, append_L, append_L]; simp [L32])
              clear hin hout hwq hwqs htq htqs
              go_wp2_with fail
              refine (btext_c t _ (by omega)).mono ?_
              rintro e w1 ⟨rfl, hb1⟩
              rw [HQ.out]
              have b1 := (hbel.alloc hbel.size (.cells #[.bool true, .bool false, .string t] 49)).trans (hb1.mono (by simp; omega))
              go_wp2_with fail
              refine (word_c _ _ _ _ (by decide) (by decide) (by omega)).mono ?_
              rintro e w2 ⟨rfl, rfl⟩
              rw [HW.out]
              go_wp2_with fail
              go_roundw
              case rel => exact ⟨k + 1, _, _, false, some true, by omega, by go_num, rfl, rfl, by simp, .inr ⟨⟨true, false, t⟩, by omega, HX.out, rfl⟩, HIN.out, HOUT.out, b1⟩
              case measure => simp [intOf]; omega
            · simp only [Bool.and_true, Bool.false_eq_true, if_false] at hout
              obtain ⟨wq, hwq, hwqs⟩ := text_of (encQ (L t))
              obtain ⟨tq, htq, htqs⟩ := text_of (qtext (signsOf (L t)))
              have tq1 : tq.size ≤ 8589934592 := by rw [htqs]; have := qtext_len (signsOf (L t)); rw [signsOf, List.length_map, L_length] at this; unfold signsOf; omega
              have wq1 : wq.size ≤ 17179869184 := by rw [hwqs]; unfold encQ; rw [← htq]; simp only [List.length_cons, List.length_append, L_length, List.length_nil]; omega
              have HW := Lib.hid (show (⟨#[61, 63]⟩ ++ ⟨#[117, 116, 102, 45, 56]⟩ ++ ⟨#[63]⟩ ++ ⟨#[113]⟩ ++ ⟨#[63]⟩ ++ tq ++ ⟨#[63, 61]⟩ : ByteArray) = wq from L_inj (by rw [word_L, hwq, htq]; rfl))
              have HQ := Lib.hid (show (⟨(qtext (signsOf (L t))).toArray⟩ : ByteArray) = tq from L_inj (by rw [L_mk, htq]))
              have HIN := Lib.hid (show L (sa ++ ⟨#[32]⟩ ++ wq) ++ inR false (l.drop (k + 1)) = L IN by rw [← hin, append_L, append_L, hwq]; simp [encI, L32])
              have HOUT := Lib.hid (show L (sb ++ ⟨#[32]⟩ ++ t) ++ outR (some true) (l.drop (k + 1)) = L OUT by rw [← hout, append_L, append_L]; simp [L32])
              clear hin hout hwq hwqs htq htqs
              have b1 := hbel.alloc hbel.size (.cells #[.bool true, .bool true, .string t] 49)
              have n1 := heap_alloc_new wr (.cells #[.bool true, .bool true, .string t] 49)
              obtain ⟨w0, hw0⟩ : ∃ w0, w0 = wr.alloc (.cells #[.bool true, .bool true, .string t] 49) := ⟨_, rfl⟩
              have s1 : w0.heap.size = wr.heap.size + 1 := by rw [hw0]; simp
              rw [← hw0] at b1 n1
              have HW0 := Lib.hid hw0
              have N1 := Lib.hid n1
              clear hw0 n1
              go_wp2_with fail
              rw [← HW0.out]
              have dk : ∀ wi, Below (wr.heap.size + 1) w0 wi → wi.cell? ⟨wr.heap.size, 2, none⟩ = some (.string t) := fun wi hbi => (hbi.cell (p := ⟨wr.heap.size, 2, none⟩) (Nat.lt_succ_self _)).trans (by rw [Lib.cell_of_heap N1.out]; rfl)
              go_loopw [8, 9] (fun sv i wi => ∃ (j : Nat) (ss : List Sg), j ≤ t.size ∧ i = .int .i64 j ∧ ss.length = j ∧ ss = signsOf ((L t).take j) ∧ OwnS (wr.heap.size + 1) sv ss wi ∧ Below (wr.heap.size + 1) w0 wi) (fun _ i _ => t.size - (intOf i).toNat)
              case atStart => exact ⟨0, [], Nat.zero_le _, rfl, rfl, rfl, OwnS.nil' (by omega), Below.refl _ _⟩
              case round =>
                obtain ⟨j, ss, hj, rfl, hsl, hss, hown, hbi⟩ := hrel
                have d2 := dk _ hbi
                have HSS := Lib.hid hss
                clear hss
                by_cases hjt : j < t.size
                · have HT := Lib.hid (signs_take t j hjt)
                  go_wp2_with (at_builtin; refine append_sign rfl _ _ rfl _ _ ss _ rfl hown rfl (by omega) ?_; intro v2 w2 hown2 hb2 hz2)
                  go_wp2_with fail
                  go_roundw
                  case rel => exact ⟨j + 1, _, by omega, by go_num, by simp; omega, by rw [HT.out, ← HSS.out], hown2, hbi.trans hb2⟩
                  case measure => simp [intOf]; omega
                · have HE := Lib.hid (show ss = signsOf (L t) by rw [HSS.out, List.take_of_length_le (by rw [L_length]; omega)])
                  go_wp2_with fail
                  refine (qtext_c _ ss _ hown.signs (by omega)).mono ?_
                  rintro e w1 ⟨rfl, hb1⟩
                  rw [HE.out, HQ.out]
                  have b2 : Below w.heap.size w w1 := (b1.trans (hbi.mono (by omega))).trans (hb1.mono (by have := hbi.size; omega))
                  go_wp2_with fail
                  refine (word_c _ _ _ _ (by decide) (by decide) (by omega)).mono ?_
                  rintro e w2 ⟨rfl, rfl⟩
                  rw [HW.out]
                  go_wp2_with fail
                  go_roundw
                  case rel => exact ⟨k + 1, _, _, false, some true, by omega, by go_num, rfl, rfl, by simp, .inr ⟨⟨true, true, t⟩, by omega, HX.out, rfl⟩, HIN.out, HOUT.out, b2⟩
                  case measure => simp [intOf]; omega
          · cases q
            · simp only [Bool.and_true, if_true] at hout
              obtain ⟨wq, hwq, hwqs⟩ := text_of (encB (L t))
              obtain ⟨tq, htq, htqs⟩ := text_of (b64 (L t))
              have tq1 : tq.size ≤ 8589934592 := by rw [htqs, b64_len, L_length]; omega
              have wq1 : wq.size ≤ 17179869184 := by rw [hwqs]; unfold encB; rw [← htq]; simp only [List.length_cons, List.length_append, L_length, List.length_nil]; omega
              have HW := Lib.hid (show (⟨#[61, 63]⟩ ++ ⟨#[85, 84, 70, 45, 56]⟩ ++ ⟨#[63]⟩ ++ ⟨#[66]⟩ ++ ⟨#[63]⟩ ++ tq ++ ⟨#[63, 61]⟩ : ByteArray) = wq from L_inj (by rw [word_L, hwq, htq]; rfl))
              have HQ := Lib.hid (show (⟨(b64 (L t)).toArray⟩ : ByteArray) = tq from L_inj (by rw [L_mk, htq]))
              have HIN := Lib.hid (show L (sa ++ ⟨#[32]⟩ ++ wq) ++ inR false (l.drop (k + 1)) = L IN by rw [← hin, append_L, append_L, hwq]; simp [encI, L32])
              have HOUT := Lib.hid (show L (sb ++ t) ++ outR (some true) (l.drop (k + 1)) = L OUT by rw [← hout, append_L]; simp)
              clear hin hout hwq hwqs htq htqs
              go_wp2_with fail
              refine (btext_c t _ (by omega)).mono ?_
              rintro e w1 ⟨rfl, hb1⟩
              rw [HQ.out]
              have b1 := (hbel.alloc hbel.size (.cells #[.bool true, .bool false, .string t] 49)).trans (hb1.mono (by simp; omega))
              go_wp2_with fail
              refine (word_c _ _ _ _ (by decide) (by decide) (by omega)).mono ?_
              rintro e w2 ⟨rfl, rfl⟩
              rw [HW.out]
              go_wp2_with fail
              go_roundw
              case rel => exact ⟨k + 1, _, _, false, some true, by omega, by go_num, rfl, rfl, by simp, .inr ⟨⟨true, false, t⟩, by omega, HX.out, rfl⟩, HIN.out, HOUT.out, b1⟩
              case measure => simp [intOf]; omega
            · simp only [Bool.and_true, if_true] at hout
              obtain ⟨wq, hwq, hwqs⟩ := text_of (encQ (L t))
              obtain ⟨tq, htq, htqs⟩ := text_of (qtext (signsOf (L t)))
              have tq1 : tq.size ≤ 8589934592 := by rw [htqs]; have := qtext_len (signsOf (L t)); rw [signsOf, List.length_map, L_length] at this; unfold signsOf; omega
              have wq1 : wq.size ≤ 17179869184 := by rw [hwqs]; unfold encQ; rw [← htq]; simp only [List.length_cons, List.length_append, L_length, List.length_nil]; omega
              have HW := Lib.hid (show (⟨#[61, 63]⟩ ++ ⟨#[117, 116, 102, 45, 56]⟩ ++ ⟨#[63]⟩ ++ ⟨#[113]⟩ ++ ⟨#[63]⟩ ++ tq ++ ⟨#[63, 61]⟩ : ByteArray) = wq from L_inj (by rw [word_L, hwq, htq]; rfl))
              have HQ := Lib.hid (show (⟨(qtext (signsOf (L t))).toArray⟩ : ByteArray) = tq from L_inj (by rw [L_mk, htq]))
              have HIN := Lib.hid (show L (sa ++ ⟨#[32]⟩ ++ wq) ++ inR false (l.drop (k + 1)) = L IN by rw [← hin, append_L, append_L, hwq]; simp [encI, L32])
              have HOUT := Lib.hid (show L (sb ++ t) ++ outR (some true) (l.drop (k + 1)) = L OUT by rw [← hout, append_L]; simp)
              clear hin hout hwq hwqs htq htqs
              have b1 := hbel.alloc hbel.size (.cells #[.bool true, .bool true, .string t] 49)
              have n1 := heap_alloc_new wr (.cells #[.bool true, .bool true, .string t] 49)
              obtain ⟨w0, hw0⟩ : ∃ w0, w0 = wr.alloc (.cells #[.bool true, .bool true, .string t] 49) := ⟨_, rfl⟩
              have s1 : w0.heap.size = wr.heap.size + 1 := by rw [hw0]; simp
              rw [← hw0] at b1 n1
              have HW0 := Lib.hid hw0
              have N1 := Lib.hid n1
              clear hw0 n1
              go_wp2_with fail
              rw [← HW0.out]
              have dk : ∀ wi, Below (wr.heap.size + 1) w0 wi → wi.cell? ⟨wr.heap.size, 2, none⟩ = some (.string t) := fun wi hbi => (hbi.cell (p := ⟨wr.heap.size, 2, none⟩) (Nat.lt_succ_self _)).trans (by rw [Lib.cell_of_heap N1.out]; rfl)
              go_loopw [8, 9] (fun sv i wi => ∃ (j : Nat) (ss : List Sg), j ≤ t.size ∧ i = .int .i64 j ∧ ss.length = j ∧ ss = signsOf ((L t).take j) ∧ OwnS (wr.heap.size + 1) sv ss wi ∧ Below (wr.heap.size + 1) w0 wi) (fun _ i _ => t.size - (intOf i).toNat)
              case atStart => exact ⟨0, [], Nat.zero_le _, rfl, rfl, rfl, OwnS.nil' (by omega), Below.refl _ _⟩
              case round =>
                obtain ⟨j, ss, hj, rfl, hsl, hss, hown, hbi⟩ := hrel
                have d2 := dk _ hbi
                have HSS := Lib.hid hss
                clear hss
                by_cases hjt : j < t.size
                · have HT := Lib.hid (signs_take t j hjt)
                  go_wp2_with (at_builtin; refine append_sign rfl _ _ rfl _ _ ss _ rfl hown rfl (by omega) ?_; intro v2 w2 hown2 hb2 hz2)
                  go_wp2_with fail
                  go_roundw
                  case rel => exact ⟨j + 1, _, by omega, by go_num, by simp; omega, by rw [HT.out, ← HSS.out], hown2, hbi.trans hb2⟩
                  case measure => simp [intOf]; omega
                · have HE := Lib.hid (show ss = signsOf (L t) by rw [HSS.out, List.take_of_length_le (by rw [L_length]; omega)])
                  go_wp2_with fail
                  refine (qtext_c _ ss _ hown.signs (by omega)).mono ?_
                  rintro e w1 ⟨rfl, hb1⟩
                  rw [HE.out, HQ.out]
                  have b2 : Below w.heap.size w w1 := (b1.trans (hbi.mono (by omega))).trans (hb1.mono (by have := hbi.size; omega))
                  go_wp2_with fail
                  refine (word_c _ _ _ _ (by decide) (by decide) (by omega)).mono ?_
                  rintro e w2 ⟨rfl, rfl⟩
                  rw [HW.out]
                  go_wp2_with fail
                  go_roundw
                  case rel => exact ⟨k + 1, _, _, false, some true, by omega, by go_num, rfl, rfl, by simp, .inr ⟨⟨true, true, t⟩, by omega, HX.out, rfl⟩, HIN.out, HOUT.out, b2⟩
                  case measure => simp [intOf]; omega
    · have hke : k = l.length := by omega
      have HA := Lib.hid (show sa = IN from L_inj (by rw [← hin, hke, List.drop_length]; simp [inR]))
      have HB := Lib.hid (show sb = OUT from L_inj (by rw [← hout, hke, List.drop_length]; simp [outR]))
      go_wp2_with fail
      go_ret2
      exact ⟨by rw [HA.out, HB.out]; rfl, hbel⟩
end Go.Proofs.YtlapehcngmiaaaaDoor
