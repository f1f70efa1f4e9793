/-
  THE WALK OF FnExactParameter: a parameter is its name in small letters and its value; where unicode.White_Space lies as the program's text lays it.
-/
import Derived.Test.YteohjnebbndcoaaDoorParLaw
namespace Go.Proofs.YteohjnebbndcoaaDoor
open Go.RowKit

theorem implParameter_c (v : ByteArray) (x y z : ByteArray) (w : World) (H : Calls Tryd.prog 23 #[.string v] w (Makes (.tuple #[.string x, .string y, .string z]) w)) :
    Calls Tryd.prog 10 #[.string v] w (Makes (.tuple #[.string x, .string y, .string z]) w) := by
  have HH := Lib.hid H
  clear H
  have D : Calls Tryd.prog 17 #[.string v] w (Makes (.tuple #[.string x, .string y, .string z]) w) := by
    go_enter Tryd.func17, Tryd.ntmps17
    go_wp2_with fail
    refine (HH.out).mono ?_
    rintro e w1 ⟨rfl, hb⟩
    go_wp2_with fail
    go_ret3
    exact ⟨rfl, hb⟩
  have HD := Lib.hid D
  clear D HH
  go_enter Tryd.func10, Tryd.ntmps10
  go_wp2_with fail
  refine (HD.out).mono ?_
  rintro e w1 ⟨rfl, hb⟩
  go_wp2_with fail
  go_ret3
  exact ⟨rfl, hb⟩

/-- What the call's own copy of the argument holds. -/
theorem box_cells {w w1 : World} {a b n v : ByteArray} {q : Bool} (hb : Below (w.heap.size + 1) (w.alloc (.cells #[.string a, .string b, .string n, .string v, .bool q] 23)) w1) :
    w1.heap[w.heap.size]? = some (.cells #[.string a, .string b, .string n, .string v, .bool q] 23 (0, 0)) := by
  rw [hb.block w.heap.size (by omega)]
  exact heap_alloc_new w _
theorem heap_cells {w1 : World} {g : Nat} {a b n v : ByteArray} {q : Bool} (h : w1.heap[g]? = some (.cells #[.string a, .string b, .string n, .string v, .bool q] 23 (0, 0))) :
    w1.cell? ⟨g, 0, none⟩ = some (.string a) ∧ w1.cell? ⟨g, 1, none⟩ = some (.string b) ∧ w1.cell? ⟨g, 2, none⟩ = some (.string n) ∧ w1.cell? ⟨g, 3, none⟩ = some (.string v) ∧ w1.cell? ⟨g, 4, none⟩ = some (.bool q) := by
  refine ⟨?_, ?_, ?_, ?_, ?_⟩ <;> (rw [Lib.cell_of_heap h]; rfl)

/-- What the call comes to, where all conditions hold. -/
theorem par_main (a b n v rest tx : ByteArray) (q : Bool) (w : World) (hW : Lib.WhiteTab 7 w) (htx : L tx = parT (L a) (L b) (L n) (L v) q) (ha : a.size ≤ 2147483647) (hb : b.size ≤ 2147483647) (hn : n.size ≤ 2147483647) (hv : v.size ≤ 2147483647) (hr : rest.size ≤ 2147483647)
    (ta : blanksB (L a) = true) (tb : blanksB (L b) = true) (tn : isTok (L n) = true) (tv : allB prB (L v) = true) (tq : q = false → isTok (L v) = true ∧ tokN (L rest) = 0) :
    Calls Tryd.prog 10 #[.string (tx ++ rest)] w (Makes (.tuple #[.string ⟨(Lib.toLowerA (L n)).toArray⟩, .string v, .string rest]) w) := by
  have sp : ∀ l, blanksB l = true → ∀ c ∈ l, Lib.isSp c = true := fun l h c hc => by
    unfold blanksB at h
    rw [Bool.and_eq_true] at h
    exact blank_sp c (List.all_eq_true.1 h.1 c hc)
  obtain ⟨vr, hvr, hvrs⟩ := text_of ((if q = true then quo (L v) else L v) ++ L rest)
  have hL : L (tx ++ rest) = L a ++ 59 :: (L b ++ (L n ++ 61 :: L vr)) := by rw [append_L, htx, hvr, parT]; simp
  have htl := parT_len (L a) (L b) (L n) (L v) q
  simp only [← htx, L_length] at htl
  have hs : (tx ++ rest).size ≤ 1099511627776 := by rw [ByteArray.size_append]; omega
  have hvs : vr.size ≤ 1099511627776 := by
    have := congrArg List.length hL
    simp only [List.length_append, List.length_cons, L_length] at this
    omega
  cases q
  · obtain ⟨t1, t2⟩ := tq rfl
    rw [if_neg (by simp)] at hvr hvrs
    obtain ⟨⟨c, r, hc, hct⟩, _, _⟩ := isTok_facts _ t1
    obtain ⟨f1, f2, f3, _, _⟩ := tok_facts c hct
    have hpos : 0 < v.size := by rw [← L_length, hc]; simp
    have e1 : vr = v ++ rest := L_inj (by rw [hvr, append_L])
    refine implParameter_c _ _ _ _ _ (consumeMediaParam_c _ n v rest vr (L a) (L b) w hL (sp _ ta) (sp _ tb) tn ⟨c, r ++ L rest, by rw [hvr, hc]; rfl, f2, asciiB_lt f1⟩ (by rw [e1, ByteArray.size_append]; omega) (fun w => ?_) hs hW)
    obtain ⟨h0, hh⟩ := head_of vr (c := c) (r := r ++ L rest) (by rw [hvr, hc]; rfl)
    have h := consumeValue_token vr w hvs h0 (by rw [hh]; exact f3)
    have hk : tokN (L vr) = v.size := by rw [hvr, tokN_append _ _ (by rw [isTok, Bool.and_eq_true] at t1; exact t1.2) t2, L_length]
    have e2 : vr.extract 0 v.size = v := L_inj (by rw [L_to, hvr, ← L_length, List.take_left])
    have e3 : vr.extract v.size vr.size = rest := L_inj (by rw [L_from, hvr, ← L_length, List.drop_left])
    rw [tokPair, hk, e2, e3] at h
    exact h.mono fun _ _ hh => hh.makes
  · rw [if_pos rfl] at hvr hvrs
    have e0 : L vr = 34 :: (esc (L v) ++ [34] ++ L rest) := by rw [hvr, quo]; simp
    refine implParameter_c _ _ _ _ _ (consumeMediaParam_c _ n v rest vr (L a) (L b) w hL (sp _ ta) (sp _ tb) tn ⟨34, _, e0, by decide, by decide⟩ ?_ (fun w => ?_) hs hW)
    · rw [hvrs, List.length_append, L_length, quo]; simp
    · obtain ⟨h0, hh⟩ := head_of vr e0
      have h := consumeValue_quoted vr w hvs h0 hh
      rw [hvr, quo_unq _ _ tv] at h
      have := h
      simp only [quotedPair, mk_L] at this
      exact this

set_option maxHeartbeats 1000000 in
set_option maxRecDepth 100000 in
theorem par_unfit (a b n v rest : ByteArray) (q : Bool) (w : World) (hf : fitsB a b n v = false) :
    Calls Tryd.prog 3 #[.agg #[.string a, .string b, .string n, .string v, .bool q], .string rest] w (Makes (.bool true) w) := by
  have HF := Lib.hid hf
  clear hf
  go_enter Tryd.func3, Tryd.ntmps3
  go_wp2_with fail
  refine (zzFits1_c a b n v q _).mono ?_
  rintro e w1 ⟨rfl, hb1⟩
  rw [HF.out]
  have hb1' : Below w.heap.size w w1 := ((Below.refl _ w).alloc (Nat.le_refl _) _).trans (hb1.mono (by simp))
  clear hb1
  go_wp2_with fail
  go_ret
  exact ⟨rfl, hb1'⟩

set_option maxHeartbeats 1000000 in
set_option maxRecDepth 100000 in
theorem par_long (a b n v rest : ByteArray) (q : Bool) (w : World) (hf : fitsB a b n v = true) (h : (2147483647 : Int) < (rest.size : Int)) :
    Calls Tryd.prog 3 #[.agg #[.string a, .string b, .string n, .string v, .bool q], .string rest] w (Makes (.bool true) w) := by
  have HF := Lib.hid hf
  clear hf
  go_enter Tryd.func3, Tryd.ntmps3
  go_wp2_with fail
  refine (zzFits1_c a b n v q _).mono ?_
  rintro e w1 ⟨rfl, hb1⟩
  rw [HF.out]
  have hbx := box_cells (by simpa using hb1)
  have hb1' : Below w.heap.size w w1 := ((Below.refl _ w).alloc (Nat.le_refl _) _).trans (hb1.mono (by simp))
  obtain ⟨c0, c1, c2, c3, c4⟩ := heap_cells hbx
  have HBX := Lib.hid hbx
  clear hbx
  clear hb1
  go_wp2_with fail
  go_ret
  exact ⟨rfl, hb1'⟩

set_option maxHeartbeats 1000000 in
set_option maxRecDepth 100000 in
theorem par_long24 (a b n v rest : ByteArray) (q : Bool) (w : World) (hf : fitsB a b n v = true) (d1 : decide ((2147483647 : Int) < (rest.size : Int)) = false) (h : (16777216 : Int) < (rest.size : Int)) :
    Calls Tryd.prog 3 #[.agg #[.string a, .string b, .string n, .string v, .bool q], .string rest] w (Makes (.bool true) w) := by
  have HF := Lib.hid hf
  clear hf
  go_enter Tryd.func3, Tryd.ntmps3
  go_wp2_with fail
  refine (zzFits1_c a b n v q _).mono ?_
  rintro e w1 ⟨rfl, hb1⟩
  rw [HF.out]
  have hbx := box_cells (by simpa using hb1)
  have hb1' : Below w.heap.size w w1 := ((Below.refl _ w).alloc (Nat.le_refl _) _).trans (hb1.mono (by simp))
  obtain ⟨c0, c1, c2, c3, c4⟩ := heap_cells hbx
  have HBX := Lib.hid hbx
  clear hbx
  clear hb1
  go_wp2_with fail
  go_ret
  exact ⟨rfl, hb1'⟩

set_option maxHeartbeats 1000000 in
set_option maxRecDepth 100000 in
theorem par_tn (a b n v rest : ByteArray) (q : Bool) (w : World) (hm : a.size ≤ 2147483647 ∧ b.size ≤ 2147483647 ∧ n.size ≤ 2147483647 ∧ v.size ≤ 2147483647) (hf : fitsB a b n v = true) (d1 : decide ((2147483647 : Int) < (rest.size : Int)) = false) (d2 : decide ((16777216 : Int) < (rest.size : Int)) = false) (tn : isTok (L n) = false) :
    Calls Tryd.prog 3 #[.agg #[.string a, .string b, .string n, .string v, .bool q], .string rest] w (Makes (.bool true) w) := by
  have HF := Lib.hid hf
  clear hf
  have Htn := Lib.hid tn
  clear tn
  go_enter Tryd.func3, Tryd.ntmps3
  go_wp2_with fail
  refine (zzFits1_c a b n v q _).mono ?_
  rintro e w1 ⟨rfl, hb1⟩
  rw [HF.out]
  have hbx := box_cells (by simpa using hb1)
  have hb1' : Below w.heap.size w w1 := ((Below.refl _ w).alloc (Nat.le_refl _) _).trans (hb1.mono (by simp))
  obtain ⟨c0, c1, c2, c3, c4⟩ := heap_cells hbx
  have HBX := Lib.hid hbx
  clear hbx
  clear hb1
  go_wp2_with fail
  refine (specIsToken_c n _ (by omega)).mono ?_
  rintro e w2 ⟨rfl, rfl⟩
  rw [Htn.out]
  go_wp2_with fail
  go_ret
  exact ⟨rfl, hb1'⟩

set_option maxHeartbeats 1000000 in
set_option maxRecDepth 100000 in
theorem par_ta (a b n v rest : ByteArray) (q : Bool) (w : World) (hm : a.size ≤ 2147483647 ∧ b.size ≤ 2147483647 ∧ n.size ≤ 2147483647 ∧ v.size ≤ 2147483647) (hf : fitsB a b n v = true) (d1 : decide ((2147483647 : Int) < (rest.size : Int)) = false) (d2 : decide ((16777216 : Int) < (rest.size : Int)) = false) (tn : isTok (L n) = true) (ta : blanksB (L a) = false) :
    Calls Tryd.prog 3 #[.agg #[.string a, .string b, .string n, .string v, .bool q], .string rest] w (Makes (.bool true) w) := by
  have HF := Lib.hid hf
  clear hf
  have Htn := Lib.hid tn
  clear tn
  have Hta := Lib.hid ta
  clear ta
  go_enter Tryd.func3, Tryd.ntmps3
  go_wp2_with fail
  refine (zzFits1_c a b n v q _).mono ?_
  rintro e w1 ⟨rfl, hb1⟩
  rw [HF.out]
  have hbx := box_cells (by simpa using hb1)
  have hb1' : Below w.heap.size w w1 := ((Below.refl _ w).alloc (Nat.le_refl _) _).trans (hb1.mono (by simp))
  obtain ⟨c0, c1, c2, c3, c4⟩ := heap_cells hbx
  have HBX := Lib.hid hbx
  clear hbx
  clear hb1
  go_wp2_with fail
  refine (specIsToken_c n _ (by omega)).mono ?_
  rintro e w2 ⟨rfl, rfl⟩
  rw [Htn.out]
  go_wp2_with fail
  refine (blanks_c a _ (by omega)).mono ?_
  rintro e w2 ⟨rfl, rfl⟩
  rw [Hta.out]
  go_wp2_with fail
  go_ret
  exact ⟨rfl, hb1'⟩

set_option maxHeartbeats 1000000 in
set_option maxRecDepth 100000 in
theorem par_tb (a b n v rest : ByteArray) (q : Bool) (w : World) (hm : a.size ≤ 2147483647 ∧ b.size ≤ 2147483647 ∧ n.size ≤ 2147483647 ∧ v.size ≤ 2147483647) (hf : fitsB a b n v = true) (d1 : decide ((2147483647 : Int) < (rest.size : Int)) = false) (d2 : decide ((16777216 : Int) < (rest.size : Int)) = false) (tn : isTok (L n) = true) (ta : blanksB (L a) = true) (tb : blanksB (L b) = false) :
    Calls Tryd.prog 3 #[.agg #[.string a, .string b, .string n, .string v, .bool q], .string rest] w (Makes (.bool true) w) := by
  have HF := Lib.hid hf
  clear hf
  have Htn := Lib.hid tn
  clear tn
  have Hta := Lib.hid ta
  clear ta
  have Htb := Lib.hid tb
  clear tb
  go_enter Tryd.func3, Tryd.ntmps3
  go_wp2_with fail
  refine (zzFits1_c a b n v q _).mono ?_
  rintro e w1 ⟨rfl, hb1⟩
  rw [HF.out]
  have hbx := box_cells (by simpa using hb1)
  have hb1' : Below w.heap.size w w1 := ((Below.refl _ w).alloc (Nat.le_refl _) _).trans (hb1.mono (by simp))
  obtain ⟨c0, c1, c2, c3, c4⟩ := heap_cells hbx
  have HBX := Lib.hid hbx
  clear hbx
  clear hb1
  go_wp2_with fail
  refine (specIsToken_c n _ (by omega)).mono ?_
  rintro e w2 ⟨rfl, rfl⟩
  rw [Htn.out]
  go_wp2_with fail
  refine (blanks_c a _ (by omega)).mono ?_
  rintro e w2 ⟨rfl, rfl⟩
  rw [Hta.out]
  go_wp2_with fail
  refine (blanks_c b _ (by omega)).mono ?_
  rintro e w2 ⟨rfl, rfl⟩
  rw [Htb.out]
  go_wp2_with fail
  go_ret
  exact ⟨rfl, hb1'⟩

set_option maxHeartbeats 1000000 in
set_option maxRecDepth 100000 in
theorem par_tv (a b n v rest : ByteArray) (q : Bool) (w : World) (hm : a.size ≤ 2147483647 ∧ b.size ≤ 2147483647 ∧ n.size ≤ 2147483647 ∧ v.size ≤ 2147483647) (hf : fitsB a b n v = true) (d1 : decide ((2147483647 : Int) < (rest.size : Int)) = false) (d2 : decide ((16777216 : Int) < (rest.size : Int)) = false) (tn : isTok (L n) = true) (ta : blanksB (L a) = true) (tb : blanksB (L b) = true) (tv : allB prB (L v) = false) :
    Calls Tryd.prog 3 #[.agg #[.string a, .string b, .string n, .string v, .bool q], .string rest] w (Makes (.bool true) w) := by
  have HF := Lib.hid hf
  clear hf
  have Htn := Lib.hid tn
  clear tn
  have Hta := Lib.hid ta
  clear ta
  have Htb := Lib.hid tb
  clear tb
  have Htv := Lib.hid tv
  clear tv
  go_enter Tryd.func3, Tryd.ntmps3
  go_wp2_with fail
  refine (zzFits1_c a b n v q _).mono ?_
  rintro e w1 ⟨rfl, hb1⟩
  rw [HF.out]
  have hbx := box_cells (by simpa using hb1)
  have hb1' : Below w.heap.size w w1 := ((Below.refl _ w).alloc (Nat.le_refl _) _).trans (hb1.mono (by simp))
  obtain ⟨c0, c1, c2, c3, c4⟩ := heap_cells hbx
  have HBX := Lib.hid hbx
  clear hbx
  clear hb1
  go_wp2_with fail
  refine (specIsToken_c n _ (by omega)).mono ?_
  rintro e w2 ⟨rfl, rfl⟩
  rw [Htn.out]
  go_wp2_with fail
  refine (blanks_c a _ (by omega)).mono ?_
  rintro e w2 ⟨rfl, rfl⟩
  rw [Hta.out]
  go_wp2_with fail
  refine (blanks_c b _ (by omega)).mono ?_
  rintro e w2 ⟨rfl, rfl⟩
  rw [Htb.out]
  go_wp2_with fail
  refine (printable_c v _ (by omega)).mono ?_
  rintro e w2 ⟨rfl, rfl⟩
  rw [Htv.out]
  go_wp2_with fail
  go_ret
  exact ⟨rfl, hb1'⟩

set_option maxHeartbeats 1000000 in
set_option maxRecDepth 100000 in
theorem par_tt (a b n v rest : ByteArray) (w : World) (hm : a.size ≤ 2147483647 ∧ b.size ≤ 2147483647 ∧ n.size ≤ 2147483647 ∧ v.size ≤ 2147483647) (hf : fitsB a b n v = true) (d1 : decide ((2147483647 : Int) < (rest.size : Int)) = false) (d2 : decide ((16777216 : Int) < (rest.size : Int)) = false) (tn : isTok (L n) = true) (ta : blanksB (L a) = true) (tb : blanksB (L b) = true) (tv : allB prB (L v) = true) (tt : isTok (L v) = false) :
    Calls Tryd.prog 3 #[.agg #[.string a, .string b, .string n, .string v, .bool false], .string rest] w (Makes (.bool true) w) := by
  have HF := Lib.hid hf
  clear hf
  have Htn := Lib.hid tn
  clear tn
  have Hta := Lib.hid ta
  clear ta
  have Htb := Lib.hid tb
  clear tb
  have Htv := Lib.hid tv
  clear tv
  have Htt := Lib.hid tt
  clear tt
  go_enter Tryd.func3, Tryd.ntmps3
  go_wp2_with fail
  refine (zzFits1_c a b n v false _).mono ?_
  rintro e w1 ⟨rfl, hb1⟩
  rw [HF.out]
  have hbx := box_cells (by simpa using hb1)
  have hb1' : Below w.heap.size w w1 := ((Below.refl _ w).alloc (Nat.le_refl _) _).trans (hb1.mono (by simp))
  obtain ⟨c0, c1, c2, c3, c4⟩ := heap_cells hbx
  have HBX := Lib.hid hbx
  clear hbx
  clear hb1
  go_wp2_with fail
  refine (specIsToken_c n _ (by omega)).mono ?_
  rintro e w2 ⟨rfl, rfl⟩
  rw [Htn.out]
  go_wp2_with fail
  refine (blanks_c a _ (by omega)).mono ?_
  rintro e w2 ⟨rfl, rfl⟩
  rw [Hta.out]
  go_wp2_with fail
  refine (blanks_c b _ (by omega)).mono ?_
  rintro e w2 ⟨rfl, rfl⟩
  rw [Htb.out]
  go_wp2_with fail
  refine (printable_c v _ (by omega)).mono ?_
  rintro e w2 ⟨rfl, rfl⟩
  rw [Htv.out]
  go_wp2_with fail
  refine (specIsToken_c v _ (by omega)).mono ?_
  rintro e w2 ⟨rfl, rfl⟩
  rw [Htt.out]
  go_wp2_with fail
  go_ret
  exact ⟨rfl, hb1'⟩

set_option maxHeartbeats 1000000 in
set_option maxRecDepth 100000 in
theorem par_hb (a b n v rest : ByteArray) (w : World) (hm : a.size ≤ 2147483647 ∧ b.size ≤ 2147483647 ∧ n.size ≤ 2147483647 ∧ v.size ≤ 2147483647) (hf : fitsB a b n v = true) (d1 : decide ((2147483647 : Int) < (rest.size : Int)) = false) (d2 : decide ((16777216 : Int) < (rest.size : Int)) = false) (tn : isTok (L n) = true) (ta : blanksB (L a) = true) (tb : blanksB (L b) = true) (tv : allB prB (L v) = true) (tt : isTok (L v) = true) (hr0 : 0 < rest.size) (hb : tokB rest[0] = true) :
    Calls Tryd.prog 3 #[.agg #[.string a, .string b, .string n, .string v, .bool false], .string rest] w (Makes (.bool true) w) := by
  have HF := Lib.hid hf
  clear hf
  have Htn := Lib.hid tn
  clear tn
  have Hta := Lib.hid ta
  clear ta
  have Htb := Lib.hid tb
  clear tb
  have Htv := Lib.hid tv
  clear tv
  have Htt := Lib.hid tt
  have Hhb := Lib.hid hb
  clear tt hb
  have dr : decide ((0 : Int) < (rest.size : Int)) = true := by simpa using hr0
  go_enter Tryd.func3, Tryd.ntmps3
  go_wp2_with fail
  refine (zzFits1_c a b n v false _).mono ?_
  rintro e w1 ⟨rfl, hb1⟩
  rw [HF.out]
  have hbx := box_cells (by simpa using hb1)
  have hb1' : Below w.heap.size w w1 := ((Below.refl _ w).alloc (Nat.le_refl _) _).trans (hb1.mono (by simp))
  obtain ⟨c0, c1, c2, c3, c4⟩ := heap_cells hbx
  have HBX := Lib.hid hbx
  clear hbx
  clear hb1
  go_wp2_with fail
  refine (specIsToken_c n _ (by omega)).mono ?_
  rintro e w2 ⟨rfl, rfl⟩
  rw [Htn.out]
  go_wp2_with fail
  refine (blanks_c a _ (by omega)).mono ?_
  rintro e w2 ⟨rfl, rfl⟩
  rw [Hta.out]
  go_wp2_with fail
  refine (blanks_c b _ (by omega)).mono ?_
  rintro e w2 ⟨rfl, rfl⟩
  rw [Htb.out]
  go_wp2_with fail
  refine (printable_c v _ (by omega)).mono ?_
  rintro e w2 ⟨rfl, rfl⟩
  rw [Htv.out]
  go_wp2_with fail
  refine (specIsToken_c v _ (by omega)).mono ?_
  rintro e w2 ⟨rfl, rfl⟩
  rw [Htt.out]
  go_wp2_with fail
  refine (tokenByte_c _ _).mono ?_
  rintro e w2 ⟨rfl, rfl⟩
  rw [Hhb.out]
  go_wp2_with fail
  go_ret
  exact ⟨rfl, hb1'⟩

set_option maxHeartbeats 1000000 in
set_option maxRecDepth 100000 in
theorem par_plain (a b n v rest : ByteArray) (w : World) (hm : a.size ≤ 2147483647 ∧ b.size ≤ 2147483647 ∧ n.size ≤ 2147483647 ∧ v.size ≤ 2147483647) (hf : fitsB a b n v = true) (d1 : decide ((2147483647 : Int) < (rest.size : Int)) = false) (d2 : decide ((16777216 : Int) < (rest.size : Int)) = false) (tn : isTok (L n) = true) (ta : blanksB (L a) = true) (tb : blanksB (L b) = true) (tv : allB prB (L v) = true) (tt : isTok (L v) = true) (hr0 : 0 < rest.size) (hb : tokB rest[0] = false) (tx : ByteArray) (htx : L tx = parT (L a) (L b) (L n) (L v) false) (htx1 : tx.size ≤ 1099511627776) (last : ∀ w1, Lib.WhiteTab 7 w1 → Calls Tryd.prog 10 #[.string (tx ++ rest)] w1 (Makes (.tuple #[.string ⟨(Lib.toLowerA (L n)).toArray⟩, .string v, .string rest]) w1)) (hW : Lib.WhiteTab 7 w) :
    Calls Tryd.prog 3 #[.agg #[.string a, .string b, .string n, .string v, .bool false], .string rest] w (Makes (.bool true) w) := by
  have HF := Lib.hid hf
  clear hf
  have Htn := Lib.hid tn
  clear tn
  have Hta := Lib.hid ta
  clear ta
  have Htb := Lib.hid tb
  clear tb
  have Htv := Lib.hid tv
  clear tv
  have hr24 : rest.size ≤ 16777216 := by have := of_decide_eq_false d2; omega
  have HLs := Lib.hid last
  have HTC := Lib.hid fun (g : Nat) (w : World) (hg) (cap : Nat) => text_c g a b n v tx false w (by omega) (by omega) (by omega) (by omega) htx hg cap
  have HLO := Lib.hid fun (w : World) => lower_c n w (by omega)
  have HW := Lib.hid hW
  clear last htx hW
  have Htt := Lib.hid tt
  have Hhb := Lib.hid hb
  clear tt hb
  have dr : decide ((0 : Int) < (rest.size : Int)) = true := by simpa using hr0
  go_enter Tryd.func3, Tryd.ntmps3
  go_wp2_with fail
  refine (zzFits1_c a b n v false _).mono ?_
  rintro e w1 ⟨rfl, hb1⟩
  rw [HF.out]
  have hbx := box_cells (by simpa using hb1)
  have hb1' : Below w.heap.size w w1 := ((Below.refl _ w).alloc (Nat.le_refl _) _).trans (hb1.mono (by simp))
  obtain ⟨c0, c1, c2, c3, c4⟩ := heap_cells hbx
  have HBX := Lib.hid hbx
  clear hbx
  clear hb1
  go_wp2_with fail
  refine (specIsToken_c n _ (by omega)).mono ?_
  rintro e w2 ⟨rfl, rfl⟩
  rw [Htn.out]
  go_wp2_with fail
  refine (blanks_c a _ (by omega)).mono ?_
  rintro e w2 ⟨rfl, rfl⟩
  rw [Hta.out]
  go_wp2_with fail
  refine (blanks_c b _ (by omega)).mono ?_
  rintro e w2 ⟨rfl, rfl⟩
  rw [Htb.out]
  go_wp2_with fail
  refine (printable_c v _ (by omega)).mono ?_
  rintro e w2 ⟨rfl, rfl⟩
  rw [Htv.out]
  go_wp2_with fail
  refine (specIsToken_c v _ (by omega)).mono ?_
  rintro e w2 ⟨rfl, rfl⟩
  rw [Htt.out]
  go_wp2_with fail
  refine (tokenByte_c _ _).mono ?_
  rintro e w2 ⟨rfl, rfl⟩
  rw [Hhb.out]
  go_wp2_with fail
  refine (HTC.out _ _ (heap_alloc_new _ _) _).mono ?_
  rintro e w3 ⟨rfl, hb3⟩
  have hb3' : Below w.heap.size w w3 := (hb1'.alloc hb1'.size _).trans (hb3.mono (by have := hb1'.size; simp; omega))
  have hl : w.heap.size < w1.heap.size := by
    rcases Nat.lt_or_ge w.heap.size w1.heap.size with h | h
    · exact h
    · have := HBX.out; rw [Array.getElem?_eq_none h] at this; cases this
  have HBY := Lib.hid ((hb3.block w.heap.size (by simp; omega)).trans ((Lib.alloc_old w1 _ _ hl).trans HBX.out))
  clear c0 c1 c2 c3 c4 HBX hl
  obtain ⟨c0, c1, c2, c3, c4⟩ := heap_cells HBY.out
  go_wp2_with fail
  refine (HLs.out _ (WhiteTab_below HW.out hb3')).mono ?_
  rintro e w4 ⟨rfl, hb4⟩
  have hb4' := hb3'.trans (hb4.mono hb3'.size)
  have hl : w.heap.size < w3.heap.size := by
    rcases Nat.lt_or_ge w.heap.size w3.heap.size with h | h
    · exact h
    · have := HBY.out; rw [Array.getElem?_eq_none h] at this; cases this
  have HBZ := Lib.hid ((hb4.block w.heap.size hl).trans HBY.out)
  clear c0 c1 c2 c3 c4 HBY hl
  obtain ⟨c0, c1, c2, c3, c4⟩ := heap_cells HBZ.out
  go_wp2_with fail
  refine (HLO.out _).mono ?_
  rintro e w5 ⟨rfl, hb5⟩
  have hb5' := hb4'.trans (hb5.mono hb4'.size)
  have hl : w.heap.size < w4.heap.size := by
    rcases Nat.lt_or_ge w.heap.size w4.heap.size with h | h
    · exact h
    · have := HBZ.out; rw [Array.getElem?_eq_none h] at this; cases this
  have c3' := (hb5.cell (p := ⟨w.heap.size, 3, none⟩) hl).trans c3
  clear c0 c1 c2 c3 c4 hl
  go_wp2_with fail
  go_ret
  exact ⟨rfl, hb5'⟩

set_option maxHeartbeats 1000000 in
set_option maxRecDepth 100000 in
theorem par_end (a b n v rest : ByteArray) (w : World) (hm : a.size ≤ 2147483647 ∧ b.size ≤ 2147483647 ∧ n.size ≤ 2147483647 ∧ v.size ≤ 2147483647) (hf : fitsB a b n v = true) (d1 : decide ((2147483647 : Int) < (rest.size : Int)) = false) (d2 : decide ((16777216 : Int) < (rest.size : Int)) = false) (tn : isTok (L n) = true) (ta : blanksB (L a) = true) (tb : blanksB (L b) = true) (tv : allB prB (L v) = true) (tt : isTok (L v) = true) (hr0 : ¬ 0 < rest.size) (tx : ByteArray) (htx : L tx = parT (L a) (L b) (L n) (L v) false) (htx1 : tx.size ≤ 1099511627776) (last : ∀ w1, Lib.WhiteTab 7 w1 → Calls Tryd.prog 10 #[.string (tx ++ rest)] w1 (Makes (.tuple #[.string ⟨(Lib.toLowerA (L n)).toArray⟩, .string v, .string rest]) w1)) (hW : Lib.WhiteTab 7 w) :
    Calls Tryd.prog 3 #[.agg #[.string a, .string b, .string n, .string v, .bool false], .string rest] w (Makes (.bool true) w) := by
  have HF := Lib.hid hf
  clear hf
  have Htn := Lib.hid tn
  clear tn
  have Hta := Lib.hid ta
  clear ta
  have Htb := Lib.hid tb
  clear tb
  have Htv := Lib.hid tv
  clear tv
  have hr24 : rest.size ≤ 16777216 := by have := of_decide_eq_false d2; omega
  have HLs := Lib.hid last
  have HTC := Lib.hid fun (g : Nat) (w : World) (hg) (cap : Nat) => text_c g a b n v tx false w (by omega) (by omega) (by omega) (by omega) htx hg cap
  have HLO := Lib.hid fun (w : World) => lower_c n w (by omega)
  have HW := Lib.hid hW
  clear last htx hW
  have Htt := Lib.hid tt
  clear tt
  have dr : decide ((0 : Int) < (rest.size : Int)) = false := by simpa using hr0
  go_enter Tryd.func3, Tryd.ntmps3
  go_wp2_with fail
  refine (zzFits1_c a b n v false _).mono ?_
  rintro e w1 ⟨rfl, hb1⟩
  rw [HF.out]
  have hbx := box_cells (by simpa using hb1)
  have hb1' : Below w.heap.size w w1 := ((Below.refl _ w).alloc (Nat.le_refl _) _).trans (hb1.mono (by simp))
  obtain ⟨c0, c1, c2, c3, c4⟩ := heap_cells hbx
  have HBX := Lib.hid hbx
  clear hbx
  clear hb1
  go_wp2_with fail
  refine (specIsToken_c n _ (by omega)).mono ?_
  rintro e w2 ⟨rfl, rfl⟩
  rw [Htn.out]
  go_wp2_with fail
  refine (blanks_c a _ (by omega)).mono ?_
  rintro e w2 ⟨rfl, rfl⟩
  rw [Hta.out]
  go_wp2_with fail
  refine (blanks_c b _ (by omega)).mono ?_
  rintro e w2 ⟨rfl, rfl⟩
  rw [Htb.out]
  go_wp2_with fail
  refine (printable_c v _ (by omega)).mono ?_
  rintro e w2 ⟨rfl, rfl⟩
  rw [Htv.out]
  go_wp2_with fail
  refine (specIsToken_c v _ (by omega)).mono ?_
  rintro e w2 ⟨rfl, rfl⟩
  rw [Htt.out]
  go_wp2_with fail
  refine (HTC.out _ _ (heap_alloc_new _ _) _).mono ?_
  rintro e w3 ⟨rfl, hb3⟩
  have hb3' : Below w.heap.size w w3 := (hb1'.alloc hb1'.size _).trans (hb3.mono (by have := hb1'.size; simp; omega))
  have hl : w.heap.size < w1.heap.size := by
    rcases Nat.lt_or_ge w.heap.size w1.heap.size with h | h
    · exact h
    · have := HBX.out; rw [Array.getElem?_eq_none h] at this; cases this
  have HBY := Lib.hid ((hb3.block w.heap.size (by simp; omega)).trans ((Lib.alloc_old w1 _ _ hl).trans HBX.out))
  clear c0 c1 c2 c3 c4 HBX hl
  obtain ⟨c0, c1, c2, c3, c4⟩ := heap_cells HBY.out
  go_wp2_with fail
  refine (HLs.out _ (WhiteTab_below HW.out hb3')).mono ?_
  rintro e w4 ⟨rfl, hb4⟩
  have hb4' := hb3'.trans (hb4.mono hb3'.size)
  have hl : w.heap.size < w3.heap.size := by
    rcases Nat.lt_or_ge w.heap.size w3.heap.size with h | h
    · exact h
    · have := HBY.out; rw [Array.getElem?_eq_none h] at this; cases this
  have HBZ := Lib.hid ((hb4.block w.heap.size hl).trans HBY.out)
  clear c0 c1 c2 c3 c4 HBY hl
  obtain ⟨c0, c1, c2, c3, c4⟩ := heap_cells HBZ.out
  go_wp2_with fail
  refine (HLO.out _).mono ?_
  rintro e w5 ⟨rfl, hb5⟩
  have hb5' := hb4'.trans (hb5.mono hb4'.size)
  have hl : w.heap.size < w4.heap.size := by
    rcases Nat.lt_or_ge w.heap.size w4.heap.size with h | h
    · exact h
    · have := HBZ.out; rw [Array.getElem?_eq_none h] at this; cases this
  have c3' := (hb5.cell (p := ⟨w.heap.size, 3, none⟩) hl).trans c3
  clear c0 c1 c2 c3 c4 hl
  go_wp2_with fail
  go_ret
  exact ⟨rfl, hb5'⟩

set_option maxHeartbeats 1000000 in
set_option maxRecDepth 100000 in
theorem par_quoted (a b n v rest : ByteArray) (w : World) (hm : a.size ≤ 2147483647 ∧ b.size ≤ 2147483647 ∧ n.size ≤ 2147483647 ∧ v.size ≤ 2147483647) (hf : fitsB a b n v = true) (d1 : decide ((2147483647 : Int) < (rest.size : Int)) = false) (d2 : decide ((16777216 : Int) < (rest.size : Int)) = false) (tn : isTok (L n) = true) (ta : blanksB (L a) = true) (tb : blanksB (L b) = true) (tv : allB prB (L v) = true) (tx : ByteArray) (htx : L tx = parT (L a) (L b) (L n) (L v) true) (htx1 : tx.size ≤ 1099511627776) (last : ∀ w1, Lib.WhiteTab 7 w1 → Calls Tryd.prog 10 #[.string (tx ++ rest)] w1 (Makes (.tuple #[.string ⟨(Lib.toLowerA (L n)).toArray⟩, .string v, .string rest]) w1)) (hW : Lib.WhiteTab 7 w) :
    Calls Tryd.prog 3 #[.agg #[.string a, .string b, .string n, .string v, .bool true], .string rest] w (Makes (.bool true) w) := by
  have HF := Lib.hid hf
  clear hf
  have Htn := Lib.hid tn
  clear tn
  have Hta := Lib.hid ta
  clear ta
  have Htb := Lib.hid tb
  clear tb
  have Htv := Lib.hid tv
  clear tv
  have hr24 : rest.size ≤ 16777216 := by have := of_decide_eq_false d2; omega
  have HLs := Lib.hid last
  have HTC := Lib.hid fun (g : Nat) (w : World) (hg) (cap : Nat) => text_c g a b n v tx true w (by omega) (by omega) (by omega) (by omega) htx hg cap
  have HLO := Lib.hid fun (w : World) => lower_c n w (by omega)
  have HW := Lib.hid hW
  clear last htx hW
  go_enter Tryd.func3, Tryd.ntmps3
  go_wp2_with fail
  refine (zzFits1_c a b n v true _).mono ?_
  rintro e w1 ⟨rfl, hb1⟩
  rw [HF.out]
  have hbx := box_cells (by simpa using hb1)
  have hb1' : Below w.heap.size w w1 := ((Below.refl _ w).alloc (Nat.le_refl _) _).trans (hb1.mono (by simp))
  obtain ⟨c0, c1, c2, c3, c4⟩ := heap_cells hbx
  have HBX := Lib.hid hbx
  clear hbx
  clear hb1
  go_wp2_with fail
  refine (specIsToken_c n _ (by omega)).mono ?_
  rintro e w2 ⟨rfl, rfl⟩
  rw [Htn.out]
  go_wp2_with fail
  refine (blanks_c a _ (by omega)).mono ?_
  rintro e w2 ⟨rfl, rfl⟩
  rw [Hta.out]
  go_wp2_with fail
  refine (blanks_c b _ (by omega)).mono ?_
  rintro e w2 ⟨rfl, rfl⟩
  rw [Htb.out]
  go_wp2_with fail
  refine (printable_c v _ (by omega)).mono ?_
  rintro e w2 ⟨rfl, rfl⟩
  rw [Htv.out]
  go_wp2_with fail
  refine (HTC.out _ _ (heap_alloc_new _ _) _).mono ?_
  rintro e w3 ⟨rfl, hb3⟩
  have hb3' : Below w.heap.size w w3 := (hb1'.alloc hb1'.size _).trans (hb3.mono (by have := hb1'.size; simp; omega))
  have hl : w.heap.size < w1.heap.size := by
    rcases Nat.lt_or_ge w.heap.size w1.heap.size with h | h
    · exact h
    · have := HBX.out; rw [Array.getElem?_eq_none h] at this; cases this
  have HBY := Lib.hid ((hb3.block w.heap.size (by simp; omega)).trans ((Lib.alloc_old w1 _ _ hl).trans HBX.out))
  clear c0 c1 c2 c3 c4 HBX hl
  obtain ⟨c0, c1, c2, c3, c4⟩ := heap_cells HBY.out
  go_wp2_with fail
  refine (HLs.out _ (WhiteTab_below HW.out hb3')).mono ?_
  rintro e w4 ⟨rfl, hb4⟩
  have hb4' := hb3'.trans (hb4.mono hb3'.size)
  have hl : w.heap.size < w3.heap.size := by
    rcases Nat.lt_or_ge w.heap.size w3.heap.size with h | h
    · exact h
    · have := HBY.out; rw [Array.getElem?_eq_none h] at this; cases this
  have HBZ := Lib.hid ((hb4.block w.heap.size hl).trans HBY.out)
  clear c0 c1 c2 c3 c4 HBY hl
  obtain ⟨c0, c1, c2, c3, c4⟩ := heap_cells HBZ.out
  go_wp2_with fail
  refine (HLO.out _).mono ?_
  rintro e w5 ⟨rfl, hb5⟩
  have hb5' := hb4'.trans (hb5.mono hb4'.size)
  have hl : w.heap.size < w4.heap.size := by
    rcases Nat.lt_or_ge w.heap.size w4.heap.size with h | h
    · exact h
    · have := HBZ.out; rw [Array.getElem?_eq_none h] at this; cases this
  have c3' := (hb5.cell (p := ⟨w.heap.size, 3, none⟩) hl).trans c3
  clear c0 c1 c2 c3 c4 hl
  go_wp2_with fail
  go_ret
  exact ⟨rfl, hb5'⟩

theorem fnExactParameter_walk (a b n v rest : ByteArray) (q : Bool) (w : World) (hW : Lib.WhiteTab 7 w) :
    Calls Tryd.prog 3 #[.agg #[.string a, .string b, .string n, .string v, .bool q], .string rest] w (Makes (.bool true) w) := by
  cases hf : fitsB a b n v
  · exact par_unfit a b n v rest q w hf
  have hf' := hf
  unfold fitsB at hf'
  simp only [Bool.and_eq_true, decide_eq_true_eq] at hf'
  obtain ⟨⟨⟨ma', mb'⟩, mn'⟩, mv'⟩ := hf'
  have hm : a.size ≤ 2147483647 ∧ b.size ≤ 2147483647 ∧ n.size ≤ 2147483647 ∧ v.size ≤ 2147483647 := by omega
  by_cases h1 : (2147483647 : Int) < (rest.size : Int)
  · exact par_long a b n v rest q w hf h1
  have d1 : decide ((2147483647 : Int) < (rest.size : Int)) = false := by simpa using h1
  by_cases h2 : (16777216 : Int) < (rest.size : Int)
  · exact par_long24 a b n v rest q w hf d1 h2
  have d2 : decide ((16777216 : Int) < (rest.size : Int)) = false := by simpa using h2
  cases tn : isTok (L n)
  · exact par_tn a b n v rest q w hm hf d1 d2 tn
  cases ta : blanksB (L a)
  · exact par_ta a b n v rest q w hm hf d1 d2 tn ta
  cases tb : blanksB (L b)
  · exact par_tb a b n v rest q w hm hf d1 d2 tn ta tb
  cases tv : allB prB (L v)
  · exact par_tv a b n v rest q w hm hf d1 d2 tn ta tb tv
  obtain ⟨tx, htx, htxs⟩ := text_of (parT (L a) (L b) (L n) (L v) q)
  have htl := parT_len (L a) (L b) (L n) (L v) q
  simp only [L_length] at htl
  have htx1 : tx.size ≤ 1099511627776 := by omega
  have last := fun tq w1 h1 => par_main a b n v rest tx q w1 h1 htx hm.1 hm.2.1 hm.2.2.1 hm.2.2.2 (by omega) ta tb tn tv tq
  clear htxs htl
  cases q
  · cases tt : isTok (L v)
    · exact par_tt a b n v rest w hm hf d1 d2 tn ta tb tv tt
    by_cases hr0 : 0 < rest.size
    · cases hb : tokB rest[0]
      · exact par_plain a b n v rest w hm hf d1 d2 tn ta tb tv tt hr0 hb tx htx htx1 (last fun _ => ⟨tt, by rw [L_head rest hr0, tokN, if_neg (by simp [hb])]⟩) hW
      · exact par_hb a b n v rest w hm hf d1 d2 tn ta tb tv tt hr0 hb
    · exact par_end a b n v rest w hm hf d1 d2 tn ta tb tv tt hr0 tx htx htx1 (last fun _ => ⟨tt, by
        have : L rest = [] := List.eq_nil_of_length_eq_zero (by rw [L_length]; omega)
        rw [this]; rfl⟩) hW
  · exact par_quoted a b n v rest w hm hf d1 d2 tn ta tb tv tx htx htx1 (last fun h => by cases h) hW
end Go.Proofs.YteohjnebbndcoaaDoor
