/-
  THE PLAIN LAW OF FnExactHeader: where the next encoded word stands in a text of items, and what lies ahead of it; and hasNonWhitespace on ASCII.
-/
import Derived.Test.YtlapehcngmiaaaaDoorHdr
import Derived.Test.YtlapehcngmiaaaaDoorDecS
import Derived.Test.YtlapehcngmiaaaaDoorWordQ
namespace Go.Proofs.YtlapehcngmiaaaaDoor
open Go.RowKit

theorem allB_iff (p : UInt8 → Bool) (l : List UInt8) : allB p l = true ↔ ∀ c ∈ l, p c = true := by
  induction l with
  | nil => simp [allB]
  | cons c r ih =>
    unfold allB
    cases h : p c
    · simp [h]
    · simp [h, ih]
/-- What hasNonWhitespace passes over. -/
def wsB (b : UInt8) : Bool := b == 32 || b == 9 || b == 10 || b == 13
theorem wsB_no (b : UInt8) (h1 : b ≠ 32) (h2 : b ≠ 9) (h3 : b ≠ 10) (h4 : b ≠ 13) : wsB b = false := by
  unfold wsB; simp [h1, h2, h3, h4]

set_option maxRecDepth 100000 in
theorem nonws_c (s : ByteArray) (w : World) (h : ∀ c ∈ L s, c.toNat < 128) : Calls Tryd.prog 32 #[.string s] w (Makes (.bool (!allB wsB (L s))) w) := by
  have HA := Lib.hid h
  clear h
  go_enter Tryd.func32, Tryd.ntmps32
  go_wp2
  go_loopw [] (fun w' => ∃ pos : Nat, w' = w.iter s pos ∧ pos ≤ s.size ∧ allB wsB ((L s).drop pos) = allB wsB (L s)) (fun w' => s.size - w'.iterPos w.heap.size)
  case atStart => exact ⟨0, rfl, Nat.zero_le _, rfl⟩
  case round =>
    obtain ⟨pos, rfl, hpos, hno⟩ := hrel
    have HN := Lib.hid hno
    clear hno
    by_cases hlt : pos < s.size
    · have hd := L_drop s pos hlt
      have ha : (s[pos]'hlt).toNat < 128 := HA.out _ (by
        have : s[pos] ∈ (L s).drop pos := by rw [hd]; exact List.mem_cons_self
        exact List.mem_of_mem_drop this)
      have hnx : ∀ ty, (Instr.next (.pointer (some ⟨w.heap.size, 0, none⟩)) true ty).run Tryd.prog (w.iter s pos) = _ := fun ty => run_next_ascii w s pos ty hlt ha
      by_cases hw : wsB s[pos] = true
      · have hst : allB wsB ((L s).drop (pos + 1)) = allB wsB (L s) := by rw [← HN.out, hd, allB, if_pos hw]
        have HT := Lib.hid hst
        have hc : s[pos] = 32 ∨ s[pos] = 9 ∨ s[pos] = 10 ∨ s[pos] = 13 := by
          unfold wsB at hw
          simpa [or_assoc] using hw
        have e32 : ((32 : UInt8).toNat : Int) = 32 := rfl
        have e9 : ((9 : UInt8).toNat : Int) = 9 := rfl
        have e10 : ((10 : UInt8).toNat : Int) = 10 := rfl
        have e13 : ((13 : UInt8).toNat : Int) = 13 := rfl
        clear hst hd hw
        rcases hc with hc | hc | hc | hc
        all_goals
          simp only [hc] at hnx
          clear hc
          go_wp2
          go_roundw
          case rel => exact ⟨pos + 1, rfl, by omega, HT.out⟩
          case measure => simp; omega
      · have n1 : s[pos] ≠ 32 := fun e => hw (by rw [e]; rfl)
        have n2 : s[pos] ≠ 9 := fun e => hw (by rw [e]; rfl)
        have n3 : s[pos] ≠ 10 := fun e => hw (by rw [e]; rfl)
        have n4 : s[pos] ≠ 13 := fun e => hw (by rw [e]; rfl)
        have t1 := beq_no s[pos] 32 32 rfl n1
        have t2 := beq_no s[pos] 9 9 rfl n2
        have t3 := beq_no s[pos] 10 10 rfl n3
        have t4 := beq_no s[pos] 13 13 rfl n4
        have hst : allB wsB (L s) = false := by rw [← HN.out, hd, allB, if_neg hw]
        have HT := Lib.hid hst
        clear hst hd hw n1 n2 n3 n4
        go_wp2
        go_ret
        exact ⟨by rw [HT.out]; rfl, (Below.refl _ _).alloc (Nat.le_refl _) _⟩
    · have hnx : ∀ ty, (Instr.next (.pointer (some ⟨w.heap.size, 0, none⟩)) true ty).run Tryd.prog (w.iter s pos) = _ := fun ty => run_next_end w s pos ty hlt
      have hst : allB wsB (L s) = true := by rw [← HN.out, L_drop_end s pos hlt]; rfl
      have HT := Lib.hid hst
      clear hst
      go_wp2
      go_ret
      exact ⟨by rw [HT.out]; rfl, (Below.refl _ _).alloc (Nat.le_refl _) _⟩

/-! Where '=?' stands. -/
theorem starts_sep (a b : List UInt8) : starts (a ++ 32 :: b) = (starts a || starts b) := by
  induction a with
  | nil => simp [starts]
  | cons c a ih =>
    cases a with
    | nil => simp [starts]
    | cons d a =>
      rw [List.cons_append, starts, starts]
      by_cases h : c = 61 ∧ d = 63
      · obtain ⟨rfl, rfl⟩ := h
        simp
      · rw [if_neg (by simpa using h), if_neg (by simpa using h), ih]
theorem ix_ahead (g r : List UInt8) (h : starts (g ++ [61]) = false) : ixOf [61, 63] (g ++ 61 :: 63 :: r) = some g.length := by
  induction g with
  | nil => exact ixOf_hit _ _ rfl
  | cons c g ih =>
    rw [List.cons_append, starts] at h
    split at h
    · cases h
    · next hn =>
      rw [List.cons_append, ixOf, if_neg, ih h]
      · rfl
      · intro e
        apply hn
        cases g with
        | nil => simp at e
        | cons d g => simp at e; simp [e]
theorem ix_none (l : List UInt8) (h : starts l = false) : ixOf [61, 63] l = none := starts_ix l h

/-- Texts between words. -/
def gap (ts : List It) : List UInt8 := ts.flatMap fun t => 32 :: L t.s
theorem gap_cons (t : It) (ts : List It) : gap (t :: ts) = 32 :: (L t.s ++ gap ts) := rfl
def Texts (ts : List It) : Prop := ∀ t ∈ ts, t.wd = false
theorem okAll_mem {l : List It} (h : okAll l = true) {x : It} (hx : x ∈ l) : okIt x = true := List.all_eq_true.1 h x hx
theorem ok_text {x : It} (h : okIt x = true) (hw : x.wd = false) : allB prB (L x.s) = true ∧ starts (L x.s) = false ∧ allB blankB (L x.s) = false := by
  unfold okIt at h
  rw [if_neg (by rw [hw]; decide)] at h
  simp at h
  exact ⟨h.1.1, h.1.2, h.2⟩
theorem starts_gap (ts : List It) (ht : Texts ts) (ho : okAll ts = true) (b : List UInt8) : starts (gap ts ++ 32 :: b) = starts b := by
  induction ts with
  | nil => simp [gap, starts]
  | cons t ts ih =>
    have hs := (ok_text (okAll_mem ho List.mem_cons_self) (ht t List.mem_cons_self)).2.1
    have ih' := ih (fun x hx => ht x (List.mem_cons_of_mem _ hx)) (by simp [okAll] at ho ⊢; exact ho.2)
    rw [gap_cons]
    have e : ∃ z, gap ts ++ 32 :: b = 32 :: z := by
      cases ts with
      | nil => exact ⟨b, rfl⟩
      | cons u ts => exact ⟨_, by rw [gap_cons]; rfl⟩
    obtain ⟨z, hz⟩ := e
    rw [hz] at ih'
    rw [List.cons_append, List.append_assoc, hz, starts, if_neg (by simp), starts_sep, hs, Bool.false_or]
    rw [starts, if_neg (by simp)] at ih'
    exact ih'
theorem starts_gap0 (ts : List It) (ht : Texts ts) (ho : okAll ts = true) : starts (gap ts) = false := by
  induction ts with
  | nil => rfl
  | cons t ts ih =>
    have hs := (ok_text (okAll_mem ho List.mem_cons_self) (ht t List.mem_cons_self)).2.1
    have ih' := ih (fun x hx => ht x (List.mem_cons_of_mem _ hx)) (by simp [okAll] at ho ⊢; exact ho.2)
    rw [gap_cons, starts, if_neg (by simp)]
    cases ts with
    | nil => simpa [gap] using hs
    | cons u ts =>
      rw [gap_cons] at ih' ⊢
      rw [starts, if_neg (by simp)] at ih'
      rw [starts_sep, hs, ih']; rfl
theorem encI_text {x : It} (h : x.wd = false) : encI x = L x.s := by unfold encI; rw [if_neg (by rw [h]; decide)]
theorem inR_first (x : It) (r : List It) : inR true (x :: r) = encI x ++ inR false r := rfl
theorem inR_next (x : It) (r : List It) : inR false (x :: r) = 32 :: (encI x ++ inR false r) := rfl
theorem outR_first (x : It) (r : List It) : outR none (x :: r) = L x.s ++ outR (some x.wd) r := rfl
theorem inR_texts (ts r : List It) (ht : Texts ts) : inR false (ts ++ r) = gap ts ++ inR false r := by
  induction ts with
  | nil => rfl
  | cons t ts ih =>
    have hw := ht t List.mem_cons_self
    rw [List.cons_append, inR_next, ih (fun x hx => ht x (List.mem_cons_of_mem _ hx)), gap_cons, encI_text hw]
    simp
theorem outR_texts (p : Bool) (ts r : List It) (ht : Texts ts) : outR (some p) (ts ++ r) = gap ts ++ outR (some (if ts = [] then p else false)) r := by
  induction ts generalizing p with
  | nil => simp [gap]
  | cons t ts ih =>
    have hw := ht t List.mem_cons_self
    rw [List.cons_append, outR, ih _ (fun x hx => ht x (List.mem_cons_of_mem _ hx)), gap_cons, hw]
    simp [sepO]
theorem split_words (l : List It) : Texts l ∨ ∃ ts x r, l = ts ++ x :: r ∧ Texts ts ∧ x.wd = true := by
  induction l with
  | nil => exact .inl fun _ h => by cases h
  | cons t l ih =>
    cases hw : t.wd
    · rcases ih with h | ⟨ts, x, r, rfl, h1, h2⟩
      · exact .inl fun y hy => by rcases List.mem_cons.1 hy with rfl | hy; exact hw; exact h y hy
      · exact .inr ⟨t :: ts, x, r, rfl, fun y hy => by rcases List.mem_cons.1 hy with rfl | hy; exact hw; exact h1 y hy, h2⟩
    · exact .inr ⟨[], t, l, rfl, fun _ h => (by cases h), hw⟩

/-- An encoded word, taken apart. -/
theorem word_view (x : It) (hw : x.wd = true) (hs : x.s.size ≤ 2147483647) : ∃ (cs t : ByteArray) (how : UInt8), encI x = 61 :: 63 :: (L cs ++ 63 :: how :: 63 :: (L t ++ [63, 61])) ∧ cs.size = 5 ∧ charsN (L cs) = 1 ∧ (63 : UInt8) ∉ L cs ∧ how ≠ 63 ∧ (63 : UInt8) ∉ L t ∧ t.size ≤ 8589934592 ∧
    ∀ w, Calls Tryd.prog 31 #[.int .u8 (how.toNat : Int), .string t] w (Got (L x.s) w) := by
  have hb : (signsOf (L x.s)).map (·.b) = L x.s := by unfold signsOf; rw [List.map_map]; exact List.map_id _
  cases hq : x.q
  · obtain ⟨t, ht, hts⟩ := text_of (b64 (L x.s))
    have h1 : t.size ≤ 8589934592 := by rw [hts, b64_len, L_length]; omega
    refine ⟨⟨#[85, 84, 70, 45, 56]⟩, t, 66, by unfold encI encB; rw [if_pos hw, if_neg (by rw [hq]; decide), ht]; rfl, rfl, by decide, by decide, by decide, by rw [ht]; exact fun hm => b64_plain _ _ hm rfl, h1, fun w => decode_b _ t _ w (.inl rfl) (by omega) ht⟩
  · obtain ⟨t, ht, hts⟩ := text_of (qtext (signsOf (L x.s)))
    have h1 : t.size ≤ 8589934592 := by rw [hts]; have := qtext_len (signsOf (L x.s)); rw [signsOf, List.length_map, L_length] at this; unfold signsOf; omega
    refine ⟨⟨#[117, 116, 102, 45, 56]⟩, t, 113, by unfold encI encQ; rw [if_pos hw, if_pos hq, ht]; rfl, rfl, by decide, by decide, by decide, by rw [ht]; exact qtext_63 _, h1, fun w => decode_q _ t _ w (.inr rfl) (by omega) (by rw [ht]; have := qdec_qtext (signsOf (L x.s)); rw [hb] at this; exact this)⟩

/-- What holds at the head of DecodeHeader's loop: h is left, acc is said, b: the last thing was a word. -/
def Inv (OUT : List UInt8) (h acc : List UInt8) (b : Bool) : Prop :=
  (b = false ∧ ∃ x r, x.wd = true ∧ okAll r = true ∧ h = encI x ++ inR false r ∧ acc ++ (L x.s ++ outR (some true) r) = OUT ∧ x.s.size ≤ 2147483647 ∧ ∀ y ∈ r, y.s.size ≤ 2147483647) ∨
  (b = true ∧ ∃ r, okAll r = true ∧ h = inR false r ∧ acc ++ outR (some true) r = OUT ∧ ∀ y ∈ r, y.s.size ≤ 2147483647)
/-- Is what stands ahead of the word said? -/
def says (b : Bool) (g : List UInt8) : Bool := !g.isEmpty && (!b || !allB wsB g)

theorem encI_head (x : It) (hw : x.wd = true) (hs : x.s.size ≤ 2147483647) : ∃ z, encI x = 61 :: 63 :: z := by
  obtain ⟨cs, t, how, h, _⟩ := word_view x hw hs
  exact ⟨_, h⟩

theorem gap_ascii (ts : List It) (ht : Texts ts) (ho : okAll ts = true) : ∀ c ∈ gap ts ++ [32], c.toNat < 128 := by
  intro c hc
  rcases List.mem_append.1 hc with hc | hc
  · unfold gap at hc
    obtain ⟨t, h1, h2⟩ := List.mem_flatMap.1 hc
    rcases List.mem_cons.1 h2 with rfl | h2
    · decide
    · have := (allB_iff _ _).1 (ok_text (okAll_mem ho h1) (ht t h1)).1 c h2
      unfold prB at this
      simp at this
      rcases this with ⟨_, h⟩ | h
      · have := UInt8.le_iff_toNat_le.1 h
        simp at this
        omega
      · rw [h]; decide
  · simp at hc; rw [hc]; decide
theorem gap_nonws (t : It) (ts : List It) (ht : Texts (t :: ts)) (ho : okAll (t :: ts) = true) : allB wsB (gap (t :: ts) ++ [32]) = false := by
  obtain ⟨h1, _, h3⟩ := ok_text (okAll_mem ho List.mem_cons_self) (ht t List.mem_cons_self)
  cases h : allB wsB (gap (t :: ts) ++ [32]) with
  | false => rfl
  | true =>
    exfalso
    have hall := (allB_iff _ _).1 h
    have : allB blankB (L t.s) = true := (allB_iff _ _).2 fun c hc => by
      have a := hall c (by rw [gap_cons]; simp [hc])
      have b := (allB_iff _ _).1 h1 c hc
      unfold wsB at a
      unfold prB at b
      unfold blankB
      simp at a b ⊢
      rcases a with ((a | a) | a) | a
      · exact .inl a
      · exact .inr a
      · subst a; exact absurd b (by decide)
      · subst a; exact absurd b (by decide)
    rw [this] at h3
    cases h3

theorem inv_view (OUT h acc : List UInt8) (b : Bool) (hi : Inv OUT h acc b) :
    (ixOf [61, 63] h = none ∧ acc ++ h = OUT) ∨
    ∃ g x r, x.wd = true ∧ x.s.size ≤ 2147483647 ∧ h = g ++ (encI x ++ inR false r) ∧ ixOf [61, 63] h = some g.length ∧ (∀ c ∈ g, c.toNat < 128) ∧ (g ≠ [] → b = true) ∧
      Inv OUT (inR false r) (acc ++ (if says b g = true then g else []) ++ L x.s) true := by
  rcases hi with ⟨rfl, x, r, hw, ho, rfl, hO, hx, hr⟩ | ⟨rfl, r, ho, rfl, hO, hr⟩
  · refine .inr ⟨[], x, r, hw, hx, rfl, ?_, fun _ h => (by cases h), fun h => absurd rfl h, .inr ⟨rfl, r, ho, rfl, ?_, hr⟩⟩
    · obtain ⟨z, hz⟩ := encI_head x hw hx
      rw [hz]; exact ixOf_hit _ _ rfl
    · rw [← hO]; simp [says]
  · rcases split_words r with ht | ⟨ts, x, r', rfl, ht, hw⟩
    · have e1 : inR false r = gap r := by have := inR_texts r [] ht; simpa [inR] using this
      have e2 : outR (some true) r = gap r := by have := outR_texts true r [] ht; simpa [outR] using this
      left
      rw [e1, ← hO, e2]
      exact ⟨ix_none _ (starts_gap0 r ht ho), rfl⟩
    · have ho1 : okAll ts = true := by simp [okAll] at ho ⊢; exact ho.1
      have ho2 : okAll r' = true := by simp [okAll] at ho ⊢; exact ho.2.2
      have hx : x.s.size ≤ 2147483647 := hr x (by simp)
      have e1 : inR false (ts ++ x :: r') = (gap ts ++ [32]) ++ (encI x ++ inR false r') := by
        rw [inR_texts ts _ ht, inR]; simp
      have e2 : outR (some true) (ts ++ x :: r') = (if says true (gap ts ++ [32]) = true then gap ts ++ [32] else []) ++ (L x.s ++ outR (some true) r') := by
        rw [outR_texts true ts _ ht, outR, hw]
        cases ts with
        | nil => simp [gap, says, sepO, allB, wsB]
        | cons t ts =>
          rw [says, gap_nonws t ts ht ho1]
          simp [sepO]
      refine .inr ⟨gap ts ++ [32], x, r', hw, hx, e1, ?_, gap_ascii ts ht ho1, fun _ => rfl, .inr ⟨rfl, r', ho2, rfl, ?_, fun y hy => hr y (by simp [hy])⟩⟩
      · obtain ⟨z, hz⟩ := encI_head x hw hx
        rw [e1, hz]
        refine ix_ahead _ _ ?_
        rw [List.append_assoc]
        exact (starts_gap ts ht ho1 [61]).trans rfl
      · rw [← hO, e2]; simp

/-- The beginning: what stands ahead of the first word. -/
theorem first_view (l : List It) (ho : okAll l = true) (hs : ∀ y ∈ l, y.s.size ≤ 2147483647) :
    (starts (inR true l) = false ∧ inR true l = outR none l) ∨
    ∃ g h, inR true l = g ++ h ∧ ixOf [61, 63] (inR true l) = some g.length ∧ Inv (outR none l) h g false := by
  rcases split_words l with ht | ⟨ts, x, r, rfl, ht, hw⟩
  · left
    cases l with
    | nil => exact ⟨rfl, rfl⟩
    | cons t l =>
      have hw := ht t List.mem_cons_self
      have ht' : Texts l := fun x hx => ht x (List.mem_cons_of_mem _ hx)
      have e1 : inR false l = gap l := by have := inR_texts l [] ht'; simpa [inR] using this
      have e2 : outR (some false) l = gap l := by have := outR_texts false l [] ht'; simpa [outR] using this
      have hg := starts_gap0 (t :: l) ht ho
      rw [gap_cons, starts, if_neg (by simp)] at hg
      rw [inR_first, outR_first, e1, hw, e2, encI_text hw]
      exact ⟨hg, rfl⟩
  · right
    have hx : x.s.size ≤ 2147483647 := hs x (by simp)
    have ho2 : okAll r = true := by simp [okAll] at ho ⊢; exact ho.2.2
    have hr : ∀ y ∈ r, y.s.size ≤ 2147483647 := fun y hy => hs y (by simp [hy])
    obtain ⟨z, hz⟩ := encI_head x hw hx
    cases ts with
    | nil =>
      refine ⟨[], encI x ++ inR false r, rfl, ?_, .inl ⟨rfl, x, r, hw, ho2, rfl, by rw [List.nil_append, List.nil_append, outR_first, hw], hx, hr⟩⟩
      rw [List.nil_append, inR_first, hz]
      exact ixOf_hit _ _ rfl
    | cons t ts =>
      have hwt := ht t List.mem_cons_self
      have ht' : Texts ts := fun x hx => ht x (List.mem_cons_of_mem _ hx)
      have ho1 : okAll (t :: ts) = true := by simp [okAll] at ho ⊢; exact ⟨ho.1, ho.2.1⟩
      have e1 : inR true (t :: ts ++ x :: r) = (L t.s ++ (gap ts ++ [32])) ++ (encI x ++ inR false r) := by
        rw [List.cons_append, inR_first, inR_texts ts _ ht', inR_next, encI_text hwt]; simp
      have e2 : outR none (t :: ts ++ x :: r) = (L t.s ++ (gap ts ++ [32])) ++ (L x.s ++ outR (some true) r) := by
        rw [List.cons_append, outR_first, hwt, outR_texts false ts _ ht', outR, hw]; simp [sepO]
      refine ⟨L t.s ++ (gap ts ++ [32]), encI x ++ inR false r, e1, ?_, .inl ⟨rfl, x, r, hw, ho2, rfl, e2.symm, hx, hr⟩⟩
      rw [e1, hz]
      refine ix_ahead _ _ ?_
      have hg := starts_gap (t :: ts) ht ho1 [61]
      rw [gap_cons, List.cons_append, starts, if_neg (by simp)] at hg
      rw [List.append_assoc, List.append_assoc]
      rw [List.append_assoc] at hg
      exact hg.trans rfl
end Go.Proofs.YtlapehcngmiaaaaDoor
