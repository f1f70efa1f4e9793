/-
  CONTRACT OF mime's percentHexUnescape: each percent sign with two digits is a byte, another percent sign is refused; for every text of at most 2 to the 40th bytes.
-/
import Derived.Test.YtglffpjobjpmpaaDoorPct
import Derived.Test.YtglffpjobjpmpaaDoorFill
import Derived.Laws.OwnMore
import Derived.Lib.Builder
import Derived.StillTailTactics
namespace Go.Proofs.YtglffpjobjpmpaaDoor
open Go.RowKit
attribute [local go_sem ↓] Go.wp_at_zero Go.wp_at_succ

/-- How many percent signs, each with two digits; none, if there is another one. -/
def pctN : Nat → List UInt8 → Option Nat
  | _, [] => some 0
  | k + 1, _ :: r => pctN k r
  | 0, c :: r => if c = 37 then (if hex2 r = true then (pctN 2 r).map (· + 1) else none) else pctN 0 r

theorem hex2_len (r : List UInt8) (h : hex2 r = true) : 2 ≤ r.length := by
  match r, h with
  | a :: b :: _, _ => simp
theorem pct_both : ∀ (l : List UInt8) (k : Nat), k ≤ l.length → (pctS k l = none ∧ pctN k l = none) ∨ ∃ x n, pctS k l = some x ∧ pctN k l = some n ∧ x.length + 2 * n + k = l.length := by
  intro l
  induction l with
  | nil =>
    intro k hk
    have : k = 0 := by simpa using hk
    subst this
    exact .inr ⟨[], 0, rfl, rfl, rfl⟩
  | cons c r ih =>
    intro k hk
    match k, hk with
    | k + 1, hk =>
      rcases ih k (by simpa using hk) with h | ⟨x, n, h1, h2, h3⟩
      · exact .inl h
      · exact .inr ⟨x, n, h1, h2, by simp; omega⟩
    | 0, _ =>
      simp only [pctS, pctN]
      by_cases hc : c = 37
      · rw [if_pos hc, if_pos hc]
        cases hh : hex2 r
        · simp
        · simp only [if_true]
          rcases ih 2 (hex2_len r hh) with ⟨h1, h2⟩ | ⟨x, n, h1, h2, h3⟩
          · exact .inl ⟨by rw [h1]; rfl, by rw [h2]; rfl⟩
          · exact .inr ⟨hexAt r :: x, n + 1, by rw [h1]; rfl, by rw [h2]; rfl, by simp; omega⟩
      · rw [if_neg hc, if_neg hc]
        rcases ih 0 (Nat.zero_le _) with ⟨h1, h2⟩ | ⟨x, n, h1, h2, h3⟩
        · exact .inl ⟨by rw [h1]; rfl, h2⟩
        · exact .inr ⟨c :: x, n, by rw [h1]; rfl, h2, by simp; omega⟩
theorem pct_zero : ∀ (l : List UInt8), pctN 0 l = some 0 → pctS 0 l = some l := by
  intro l
  induction l with
  | nil => intro _; rfl
  | cons c r ih =>
    intro h
    simp only [pctS, pctN] at h ⊢
    by_cases hc : c = 37
    · rw [if_pos hc] at h
      split at h
      · cases hp : pctN 2 r with
        | none => rw [hp] at h; cases h
        | some m => rw [hp] at h; simp at h
      · cases h
    · rw [if_neg hc] at h ⊢
      rw [ih h]
      rfl

theorem pctN_plain (c : UInt8) (r : List UInt8) (h : c ≠ 37) : pctN 0 (c :: r) = pctN 0 r := by rw [pctN, if_neg h]
theorem pctN_bad (r : List UInt8) (h : hex2 r = false) : pctN 0 (37 :: r) = none := by rw [pctN, if_pos rfl, if_neg (by simp [h])]
theorem pctN_hex (a b : UInt8) (r : List UInt8) (ha : isHex a = true) (hb : isHex b = true) : pctN 0 (37 :: a :: b :: r) = (pctN 0 r).map (· + 1) := by
  rw [pctN, if_pos rfl, if_pos (by simp [hex2, ha, hb])]; rfl

theorem map_add (n : Nat) (o : Option Nat) : (o.map (· + 1)).map (n + ·) = o.map ((n + 1) + ·) := by
  cases o with
  | none => rfl
  | some m => simp; omega

set_option maxHeartbeats 2000000 in
set_option maxRecDepth 100000 in
theorem percentHexUnescape_c (s : ByteArray) (w : World) (hs : s.size ≤ 1099511627776) : Calls Tryd.prog 39 #[.string s] w (Makes (pctPair (pct (L s))) w) := by
  go_enter Tryd.func39, Tryd.ntmps39
  go_wp2
  go_loop [4, 5] (fun p i => ∃ (k n : Nat), k ≤ s.size ∧ i = .int .i64 k ∧ p = .int .i64 n ∧ (pctN 0 ((L s).drop k)).map (n + ·) = pctN 0 (L s) ∧ n ≤ k) (fun _ i => s.size - (intOf i).toNat)
  case atStart => exact ⟨0, 0, Nat.zero_le _, rfl, rfl, by simp, by simp⟩
  case round =>
    obtain ⟨k, n, hk, rfl, rfl, hno, hnk⟩ := hrel
    have HN := Lib.hid hno
    clear hno
    by_cases hlt : k < s.size
    · have hd := L_drop s k hlt
      by_cases c37 : s[k] = 37
      · have t37 : ((s[k].toNat : Int) != 37) = false := bne_yes _ 37 _ rfl c37
        have fails : pctN 0 (L s) = none → pct (L s) = none := fun h => by
          rcases pct_both (L s) 0 (Nat.zero_le _) with ⟨h1, _⟩ | ⟨x, m, _, h2, _⟩
          · exact h1
          · rw [h] at h2; cases h2
        by_cases hlt2 : k + 2 < s.size
        · have hd1 := L_drop s (k + 1) (by omega)
          have hd2 := L_drop s (k + 2) hlt2
          have g1 : decide ((s.size : Int) ≤ (k : Int) + 2) = false := by simp; omega
          cases ha : isHex s[k + 1]
          · have hstep : pct (L s) = none := fails (by rw [← HN.out, hd, c37, hd1, hd2, pctN_bad _ (by simp [hex2, ha])]; rfl)
            have HS := Lib.hid hstep
            clear hstep hd hd1 hd2 c37 fails
            go_wp2_with (go_at_call 51; refine (ishex_c _ _).mono ?_; rintro e w' ⟨rfl, rfl⟩)
            go_ret2
            exact ⟨by rw [HS.out]; rfl, Below.refl _ _⟩
          · cases hb : isHex s[k + 2]
            · have hstep : pct (L s) = none := fails (by rw [← HN.out, hd, c37, hd1, hd2, pctN_bad _ (by simp [hex2, hb])]; rfl)
              have HS := Lib.hid hstep
              clear hstep hd hd1 hd2 c37 fails
              go_wp2_with (go_at_call 51; refine (ishex_c _ _).mono ?_; rintro e w' ⟨rfl, rfl⟩)
              go_ret2
              exact ⟨by rw [HS.out]; rfl, Below.refl _ _⟩
            · have hstep : (pctN 0 ((L s).drop (k + 3))).map ((n + 1) + ·) = pctN 0 (L s) := by rw [← HN.out, hd, c37, hd1, hd2, pctN_hex _ _ _ ha hb, map_add]
              have HS := Lib.hid hstep
              clear hstep hd hd1 hd2 c37 fails
              go_wp2_with (go_at_call 51; refine (ishex_c _ _).mono ?_; rintro e w' ⟨rfl, rfl⟩)
              go_round
              case rel => exact ⟨k + 3, n + 1, by omega, by go_num, by go_num, HS.out, by omega⟩
              case measure => simp [intOf]; omega
        · have hstep : pct (L s) = none := fails (by
            rw [← HN.out, hd, c37, pctN_bad]
            · rfl
            · by_cases h1 : k + 1 < s.size
              · rw [L_drop s _ h1, L_drop_end s _ (by omega)]; rfl
              · rw [L_drop_end s _ (by omega)]; rfl)
          have HS := Lib.hid hstep
          have g1 : decide ((s.size : Int) ≤ (k : Int) + 2) = true := by simp; omega
          clear hstep hd c37 fails
          go_wp2_with fail
          go_ret2
          exact ⟨by rw [HS.out]; rfl, Below.refl _ _⟩
      · have t37 : ((s[k].toNat : Int) != 37) = true := bne_no _ 37 _ rfl c37
        have hstep : (pctN 0 ((L s).drop (k + 1))).map (n + ·) = pctN 0 (L s) := by rw [← HN.out, hd, pctN_plain _ _ c37]
        have HS := Lib.hid hstep
        clear hstep hd c37
        go_wp2_with fail
        go_round
        case rel => exact ⟨k + 1, n, by omega, by go_num, rfl, HS.out, by omega⟩
        case measure => simp [intOf]; omega
    · have hend : pctN 0 (L s) = some n := by
        have h := HN.out
        rw [L_drop_end s k hlt] at h
        simpa [pctN] using h.symm
      by_cases hn0 : n = 0
      · have HE := Lib.hid (show pct (L s) = some (L s) from pct_zero _ (by rw [hend, hn0]))
        have t0 : ((n : Int) == 0) = true := by rw [hn0]; rfl
        clear hend
        go_wp2_with fail
        go_ret2
        refine ⟨?_, Below.refl _ _⟩
        rw [HE.out, pctPair, mk_L]
        rfl
      · have t0 : ((n : Int) == 0) = false := by rw [beq_eq_false_iff_ne]; omega
        obtain ⟨x, hx, hxn⟩ : ∃ x, pct (L s) = some x ∧ x.length + 2 * n = s.size := by
          rcases pct_both (L s) 0 (Nat.zero_le _) with ⟨_, h⟩ | ⟨x, m, h1, h2, h3⟩
          · rw [hend] at h; cases h
          · rw [hend] at h2
            cases h2
            exact ⟨x, h1, by rw [L_length] at h3; omega⟩
        obtain ⟨m, hm⟩ : ∃ m, m = x.length := ⟨_, rfl⟩
        have hsub : (s.size : Int) - 2 * (n : Int) = (m : Int) := by omega
        have hmk := pctImpl_make m (by omega)
        have HM := Lib.hid hm
        have HX := Lib.hid hx
        have hm40 : m ≤ 1099511627776 := by omega
        clear hend HN hm hx hxn
        go_wp2_with fail
        go_loopw [7, 8] (fun j i wr => ∃ (q : Nat) (acc : List UInt8), q ≤ s.size ∧ i = .int .i64 q ∧ j = .int .i64 acc.length ∧ (pct ((L s).drop q)).map (acc ++ ·) = some x ∧ Fills w.heap.size m acc wr ∧ Below w.heap.size w wr) (fun _ i _ => s.size - (intOf i).toNat)
        case atStart => exact ⟨0, [], Nat.zero_le _, rfl, rfl, by rw [List.drop_zero, HX.out]; simp, ⟨heap_alloc_new w _, Nat.zero_le _⟩, (Below.refl _ _).alloc (Nat.le_refl _) _⟩
        case round =>
          obtain ⟨q, acc, hq, rfl, rfl, hno, hfill, hbel⟩ := hrel
          have HQ := Lib.hid hno
          clear hno hmk hsub hlt
          by_cases hlt : q < s.size
          · have hd := L_drop s q hlt
            by_cases c37 : s[q] = 37
            · have t37 : ((s[q].toNat : Int) == 37) = true := beq_yes _ 37 _ rfl c37
              have hh : hex2 ((L s).drop (q + 1)) = true := by
                cases h : hex2 ((L s).drop (q + 1))
                · have hQ := HQ.out
                  rw [hd, c37, pct_bad _ h] at hQ
                  cases hQ
                · rfl
              have hlt2 : q + 2 < s.size := by
                have := hex2_len _ hh
                rw [List.length_drop, L_length] at this
                omega
              have hd1 := L_drop s (q + 1) (by omega)
              have hd2 := L_drop s (q + 2) hlt2
              have hab : isHex s[q + 1] = true ∧ isHex s[q + 2] = true := by
                rw [hd1, hd2] at hh
                simpa [hex2] using hh
              obtain ⟨ha, hb⟩ := hab
              have hstep : (pct ((L s).drop (q + 3))).map ((acc ++ [hexByte s[q + 1] s[q + 2]]) ++ ·) = some x := by rw [← HQ.out, hd, c37, hd1, hd2, pct_hex _ _ _ ha hb, map_map_snoc]
              have hroom : acc.length < m := by
                have h := hstep
                cases hp : pct ((L s).drop (q + 3)) with
                | none => rw [hp] at h; cases h
                | some y =>
                  rw [hp] at h
                  have h' := congrArg List.length (Option.some.inj h)
                  simp at h'
                  have := HM.out
                  omega
              have HS := Lib.hid hstep
              have hby := hexByte_int _ _ ha hb
              have h1 := hexI_le s[q + 1]
              have h2 := hexI_le s[q + 2]
              have p1 : 0 ≤ hexI s[q + 1] := of_decide_eq_true ha
              have p2 : 0 ≤ hexI s[q + 2] := of_decide_eq_true hb
              have hor := hex_or _ _ ha hb
              have hsh : IntKind.u8.wrap (hexI s[q + 1] * 16) = hexI s[q + 1] * 16 := IntWalk.u8_in _ (by omega)
              have HA := Lib.hid ha
              have HB := Lib.hid hb
              have hcell := hfill.cell hroom
              have hfz := hfill.frozen acc.length
              clear hstep hd hd1 hd2 c37 ha hb hby hh
              go_wp2_with fail
              have hw1 : IntKind.i64.wrap ((q : Int) + 1) = (q : Int) + 1 := IntWalk.i64_in _ (by omega)
              have hw2 : IntKind.i64.wrap ((q : Int) + 2) = (q : Int) + 2 := IntWalk.i64_in _ (by omega)
              have ht1 : ((q : Int) + 1).toNat = q + 1 := by omega
              have ht2 : ((q : Int) + 2).toNat = q + 2 := by omega
              have hp1 : (0 : Int) ≤ (q : Int) + 1 := by omega
              have hp2 : (0 : Int) ≤ (q : Int) + 2 := by omega
              have hq1 : (q : Int) + 1 < (s.size : Int) := by omega
              have hq2 : (q : Int) + 2 < (s.size : Int) := by omega
              have hm1 : q + 1 < s.size := by omega
              have hr0 : (0 : Int) ≤ (acc.length : Int) := by omega
              have hr1 : (acc.length : Int) < (m : Int) := by omega
              refine wp_region_still_tail 15 (by kernel_rfl) (by kernel_rfl) ?_
              simp only [List.take_succ_cons, List.take_zero, List.drop_succ_cons, List.drop_zero]
              repeat still_step
              still_call (still_of (unhex_c _ _ HA.out))
              repeat still_step
              still_call (still_of (unhex_c _ _ HB.out))
              repeat still_step
              refine wpStill_nil ?_
              obtain ⟨w2, hw2', hfill2, hbel2⟩ : ∃ w2, w2 = wr.drew ∧ Fills w.heap.size m acc w2 ∧ Below w.heap.size w w2 := ⟨_, rfl, hfill.drew, hbel.drew⟩
              change wpList _ _ _ _ _ wr.drew
              rw [← hw2']
              have hcell2 := hfill2.cell hroom
              have hfz2 := hfill2.frozen acc.length
              clear hw2' hfill hbel hcell hfz
              go_wp2_with fail
              go_roundw
              case rel => exact ⟨q + 3, acc ++ [hexByte s[q + 1] s[q + 2]], by omega, by go_num, by simp, HS.out, hfill2.step hroom _, hbel2.setCell (p := ⟨w.heap.size, acc.length, none⟩) (Nat.le_refl _) _⟩
              case measure => simp [intOf]; omega
            · have t37 : ((s[q].toNat : Int) == 37) = false := beq_no _ 37 _ rfl c37
              have hstep : (pct ((L s).drop (q + 1))).map ((acc ++ [s[q]]) ++ ·) = some x := by rw [← HQ.out, hd, pct_plain _ _ c37, map_map_snoc]
              have hroom : acc.length < m := by
                have h := hstep
                cases hp : pct ((L s).drop (q + 1)) with
                | none => rw [hp] at h; cases h
                | some y =>
                  rw [hp] at h
                  have h' := congrArg List.length (Option.some.inj h)
                  simp at h'
                  have := HM.out
                  omega
              have HS := Lib.hid hstep
              have hcell := hfill.cell hroom
              have hfz := hfill.frozen acc.length
              clear hstep hd c37
              go_wp2_with fail
              go_roundw
              case rel => exact ⟨q + 1, acc ++ [s[q]], by omega, by go_num, by simp, HS.out, hfill.step hroom _, hbel.setCell (p := ⟨w.heap.size, acc.length, none⟩) (Nat.le_refl _) _⟩
              case measure => simp [intOf]; omega
          · have hend : acc = x := by
              have h := HQ.out
              rw [L_drop_end s q hlt, pct_nil] at h
              simpa using h
            have hcv : (convert 34 9 (.slice (some ⟨w.heap.size, 0, none⟩) m m)).run Tryd.prog wr = .ok (.string ⟨x.toArray⟩) wr := by
              subst hend
              have := HM.out
              subst this
              exact fills_string hfill
            clear hend
            go_wp2_with fail
            go_ret2
            refine ⟨?_, hbel⟩
            rw [HX.out]
            rfl
end Go.Proofs.YtglffpjobjpmpaaDoor
