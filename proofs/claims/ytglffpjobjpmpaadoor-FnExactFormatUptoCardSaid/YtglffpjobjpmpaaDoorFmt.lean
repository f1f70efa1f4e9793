/-
  CONTRACT OF mime's FormatMediaType at a type and a map of texts.
-/
import Derived.Test.YtglffpjobjpmpaaDoorTyp
import Derived.Test.YtglffpjobjpmpaaDoorCut
import Derived.Test.YtglffpjobjpmpaaDoorEsc
import Derived.Test.YtglffpjobjpmpaaDoorLow
import Derived.Test.YtglffpjobjpmpaaDoorExt
import Derived.Test.YtglffpjobjpmpaaDoorQuote
import Derived.Test.YtglffpjobjpmpaaDoorSt
import Derived.Test.YtglffpjobjpmpaaDoorMapD
import Derived.Test.YtglffpjobjpmpaaDoorIter
namespace Go.Proofs.YtglffpjobjpmpaaDoor
open Go.RowKit Go.WideMaps Go.Maps Go.Sort

/-! What it writes. -/
def fmtV (v : List UInt8) : List UInt8 := if allB prB v = true then (if isTok v = true then 61 :: v else 61 :: quo v) else 42 :: 61 :: ([117, 116, 102, 45, 56, 39, 39] ++ escA v)
def fmt1 (k v : List UInt8) : List UInt8 := 59 :: 32 :: (Lib.toLowerA k ++ fmtV v)
def fmtAll (D : DataW Unit) (ks : List (List UInt8)) : List UInt8 := ks.flatMap fun k => fmt1 k (valD D k)
def fmtR (ty : List UInt8) (D : DataW Unit) (ks : List (List UInt8)) : List UInt8 := if ks.all isTok = true then Lib.toLowerA ty ++ fmtAll D ks else []
theorem low_len (l : List UInt8) : (Lib.toLowerA l).length = l.length := by simp [Lib.toLowerA]
theorem fmt1_len (k v : List UInt8) : (fmt1 k v).length ≤ k.length + 3 * v.length + 16 := by
  have h1 := escA_len v
  have h2 := esc_len v
  unfold fmt1 fmtV
  split
  · split
    · simp [low_len]; omega
    · simp [low_len, quo]; omega
  · simp [low_len]; omega
theorem tok_ascii (l : List UInt8) (h : isTok l = true) : l.all asciiB = true := by
  have h1 := (isTok_parts l h).2
  rw [List.all_eq_true]
  induction l with
  | nil => intro x hx; cases hx
  | cons c r ih =>
    rw [allB] at h1
    split at h1
    · next hc =>
      intro x hx
      rcases List.mem_cons.1 hx with rfl | hx
      · unfold tokB at hc
        unfold asciiB
        simp at hc ⊢
        have := UInt8.lt_iff_toNat_lt.1 hc.1.2
        simp at this
        omega
      · cases r with
        | nil => cases hx
        | cons d r => exact ih (isTok_mk _ (by simp) h1) h1 x hx
    · cases h1
theorem no_slash (l : List UInt8) (h : allB tokB l = true) : (47 : UInt8) ∉ l := by
  induction l with
  | nil => simp
  | cons c r ih =>
    rw [allB] at h
    split at h
    · next hc =>
      intro hm
      rcases List.mem_cons.1 hm with e | hm
      · rw [← e] at hc; exact absurd hc (by decide)
      · exact ih h hm
    · cases h
theorem ix_absent (c : UInt8) (l : List UInt8) (h : c ∉ l) : ixOf [c] l = none := by
  induction l with
  | nil => rfl
  | cons d r ih =>
    rw [ixOf, if_neg, ih (fun e => h (List.mem_cons_of_mem _ e))]
    · rfl
    · intro e
      simp at e
      exact h (by rw [e]; exact List.mem_cons_self)
theorem ix_there (c : UInt8) (a b : List UInt8) (h : c ∉ a) : ixOf [c] (a ++ c :: b) = some a.length := by
  induction a with
  | nil => exact ixOf_hit _ _ rfl
  | cons d r ih =>
    rw [List.cons_append, ixOf, if_neg, ih (fun e => h (List.mem_cons_of_mem _ e))]
    · rfl
    · intro e
      simp at e
      exact h (by rw [e]; exact List.mem_cons_self)
theorem escA_snoc (l : List UInt8) (c : UInt8) : escA (l ++ [c]) = escA l ++ escW c := by unfold escA; simp
theorem esc_snoc (l : List UInt8) (c : UInt8) : esc (l ++ [c]) = esc l ++ (if c = 92 ∨ c = 34 then [92, c] else [c]) := by
  induction l with
  | nil => simp only [List.nil_append, esc]
  | cons d r ih =>
    rw [List.cons_append, esc, esc, ih]
    split <;> split <;> simp
theorem take_next (x : ByteArray) (i : Nat) (h : i < x.size) : (L x).take (i + 1) = (L x).take i ++ [x[i]] := by
  have e : (L x)[i]? = some x[i] := by
    have h1 := L_drop x i h
    have h2 : (L x)[i]? = ((L x).drop i)[0]? := by rw [List.getElem?_drop]; rfl
    rw [h2, h1]; rfl
  rw [List.take_add_one, e]; rfl
theorem part_next (x : ByteArray) (o i : Nat) (ho : o ≤ i) (h : i < x.size) : ((L x).drop o).take (i + 1 - o) = ((L x).drop o).take (i - o) ++ [x[i]] := by
  have e : ((L x).drop o)[i - o]? = some x[i] := by
    have h1 := L_drop x i h
    rw [List.getElem?_drop, show o + (i - o) = i by omega]
    have h2 : (L x)[i]? = ((L x).drop i)[0]? := by rw [List.getElem?_drop]; rfl
    rw [h2, h1]; rfl
  rw [show i + 1 - o = (i - o) + 1 by omega, List.take_add_one, e]; rfl

theorem and15_all : ∀ n : Fin 256, bits BinOp.and IntKind.u8 (n.val : Int) 15 = ((n.val % 16 : Nat) : Int) := by decide +kernel
theorem and15 (c : UInt8) : bits BinOp.and IntKind.u8 (c.toNat : Int) 15 = ((c.toNat % 16 : Nat) : Int) := and15_all ⟨c.toNat, c.toNat_lt⟩
theorem attr_all : ∀ n : Fin 256, (attrB (UInt8.ofNat n.val) = (!(decide ((n.val : Int) ≤ 32) || decide (127 ≤ (n.val : Int)) || ((n.val : Int) == 42) || ((n.val : Int) == 39) || ((n.val : Int) == 37) || spcB (UInt8.ofNat n.val)))) := by decide +kernel
theorem attr_eq (c : UInt8) : attrB c = (!(decide ((c.toNat : Int) ≤ 32) || decide (127 ≤ (c.toNat : Int)) || ((c.toNat : Int) == 42) || ((c.toNat : Int) == 39) || ((c.toNat : Int) == 37) || spcB c)) := by
  have := attr_all ⟨c.toNat, c.toNat_lt⟩
  simpa using this
theorem attr_yes (c : UInt8) (h : attrB c = true) : decide ((c.toNat : Int) ≤ 32) = false ∧ decide (127 ≤ (c.toNat : Int)) = false ∧ ((c.toNat : Int) == 42) = false ∧ ((c.toNat : Int) == 39) = false ∧ ((c.toNat : Int) == 37) = false ∧ spcB c = false := by
  rw [attr_eq] at h
  revert h
  generalize decide ((c.toNat : Int) ≤ 32) = a
  generalize decide (127 ≤ (c.toNat : Int)) = b
  generalize ((c.toNat : Int) == 42) = d
  generalize ((c.toNat : Int) == 39) = e
  generalize ((c.toNat : Int) == 37) = f
  generalize spcB c = g
  cases a <;> cases b <;> cases d <;> cases e <;> cases f <;> cases g <;> decide
theorem attr_no (c : UInt8) (h : attrB c = false) : decide ((c.toNat : Int) ≤ 32) = true ∨ (decide ((c.toNat : Int) ≤ 32) = false ∧ decide (127 ≤ (c.toNat : Int)) = true) ∨ (decide ((c.toNat : Int) ≤ 32) = false ∧ decide (127 ≤ (c.toNat : Int)) = false ∧ ((c.toNat : Int) == 42) = true) ∨
    (decide ((c.toNat : Int) ≤ 32) = false ∧ decide (127 ≤ (c.toNat : Int)) = false ∧ ((c.toNat : Int) == 42) = false ∧ ((c.toNat : Int) == 39) = true) ∨ (decide ((c.toNat : Int) ≤ 32) = false ∧ decide (127 ≤ (c.toNat : Int)) = false ∧ ((c.toNat : Int) == 42) = false ∧ ((c.toNat : Int) == 39) = false ∧ ((c.toNat : Int) == 37) = true) ∨
    (decide ((c.toNat : Int) ≤ 32) = false ∧ decide (127 ≤ (c.toNat : Int)) = false ∧ ((c.toNat : Int) == 42) = false ∧ ((c.toNat : Int) == 39) = false ∧ ((c.toNat : Int) == 37) = false ∧ spcB c = true) := by
  rw [attr_eq] at h
  revert h
  generalize decide ((c.toNat : Int) ≤ 32) = a
  generalize decide (127 ≤ (c.toNat : Int)) = b
  generalize ((c.toNat : Int) == 42) = d
  generalize ((c.toNat : Int) == 39) = e
  generalize ((c.toNat : Int) == 37) = f
  generalize spcB c = g
  cases a <;> cases b <;> cases d <;> cases e <;> cases f <;> cases g <;> decide
theorem row_at {w : World} {g n : Nat} {cur : Array Value} {fr : Nat × Nat} {ks : List (List UInt8)} (hcur : w.heap[g]? = some (.cells cur 9 fr)) (ht : cur.toList.take n = ks.map encStr) (k : Nat) (a : ByteArray) (hk : ks[k]? = some (L a)) :
    w.cell? ⟨g, k, none⟩ = some (.string a) := by
  have h1 : (ks.map encStr)[k]? = some (encStr (L a)) := by rw [List.getElem?_map, hk]; rfl
  rw [← ht] at h1
  have hkn : k < n := by
    rcases Nat.lt_or_ge k n with h | h
    · exact h
    · rw [List.getElem?_eq_none (by simp; omega)] at h1; cases h1
  rw [List.getElem?_take_of_lt hkn] at h1
  rw [Lib.cell_of_heap hcur, ← Array.getElem?_toList, h1]
  show some (encStr (L a)) = _
  unfold encStr
  rw [mk_L]

/-- The type is none: no text. -/
theorem formatMT_no (t : ByteArray) (mb : Nat) (w : World) (ht : t.size ≤ 1099511627776) (h : ¬ TypeIs (L t)) : Calls Tryd.prog 21 #[.string t, .map (some mb)] w (Makes (.string ⟨#[]⟩) w) := by
  cases hi : ixOf [47] (L t) with
  | none =>
    have HC := Lib.hid (show cutOf t ⟨#[47]⟩ = .tuple #[.string t, .string ⟨#[]⟩, .bool false] by unfold cutOf; rw [show ixOf (L ⟨#[47]⟩) (L t) = none from hi])
    have HI := Lib.hid (show isTok (L t) = false by cases hx : isTok (L t) with | false => rfl | true => exact absurd (.inl hx) h)
    clear hi h
    go_enter Tryd.func21, Tryd.ntmps21
    go_wp2_with fail
    refine (zzCut_c t _ _ (by omega) (by decide)).mono ?_
    rintro e w1 ⟨rfl, n, rfl⟩
    rw [HC.out]
    go_wp2_with fail
    refine (isToken_c t _ (by omega)).mono ?_
    rintro e w2 ⟨rfl, hb2⟩
    rw [HI.out]
    go_wp2_with fail
    go_ret
    exact ⟨rfl, (((Below.refl _ w).alloc (Nat.le_refl _) _).trans (drewN_below _ n |>.mono (by simp))).trans (hb2.mono (by show w.heap.size ≤ (w.alloc _).heap.size; simp))⟩
  | some m =>
    obtain ⟨h1, h2⟩ := ixOf_bound _ _ _ hi
    have hl : L t = (L t).take m ++ 47 :: (L t).drop (m + 1) := by
      have e := List.take_append_drop m (L t)
      have e2 : (L t).drop m = 47 :: (L t).drop (m + 1) := by
        cases hd : (L t).drop m with
        | nil => rw [hd] at h2; cases h2
        | cons c r =>
          rw [hd] at h2
          simp at h2
          rw [h2, ← List.drop_drop, hd]; rfl
      rw [e2] at e
      exact e.symm
    have HC := Lib.hid (show cutOf t ⟨#[47]⟩ = .tuple #[.string (t.extract 0 m), .string (t.extract (m + 1) t.size), .bool true] by unfold cutOf; rw [show ixOf (L ⟨#[47]⟩) (L t) = some m from hi]; rfl)
    have hA : L (t.extract 0 m) = (L t).take m := L_to _ _
    have hB : L (t.extract (m + 1) t.size) = (L t).drop (m + 1) := L_from _ _
    have sA : (t.extract 0 m).size ≤ t.size := by rw [← L_length, hA, List.length_take, L_length]; omega
    have sB : (t.extract (m + 1) t.size).size ≤ t.size := by rw [← L_length, hB, List.length_drop, L_length]; omega
    obtain ⟨A, hAA⟩ : ∃ A, A = t.extract 0 m := ⟨_, rfl⟩
    obtain ⟨B, hBB⟩ : ∃ B, B = t.extract (m + 1) t.size := ⟨_, rfl⟩
    rw [← hAA] at HC hA sA
    rw [← hBB] at HC hB sB
    have hno : isTok (L A) = false ∨ (isTok (L A) = true ∧ isTok (L B) = false) := by
      cases hx : isTok (L A) with
      | false => exact .inl rfl
      | true =>
        cases hy : isTok (L B) with
        | false => exact .inr ⟨rfl, rfl⟩
        | true => exact absurd (.inr ⟨_, _, hl, by rw [← hA]; exact hx, by rw [← hB]; exact hy⟩) h
    clear hi h h1 h2 hl hA hB hAA hBB
    rcases hno with hx | ⟨hx, hy⟩
    · have HX := Lib.hid hx
      clear hx
      go_enter Tryd.func21, Tryd.ntmps21
      go_wp2_with fail
      refine (zzCut_c t _ _ (by omega) (by decide)).mono ?_
      rintro e w1 ⟨rfl, n, rfl⟩
      rw [HC.out]
      go_wp2_with fail
      refine (isToken_c A _ (by omega)).mono ?_
      rintro e w2 ⟨rfl, hb2⟩
      rw [HX.out]
      go_wp2_with fail
      go_ret
      exact ⟨rfl, (((Below.refl _ w).alloc (Nat.le_refl _) _).trans (drewN_below _ n |>.mono (by simp))).trans (hb2.mono (by show w.heap.size ≤ (w.alloc _).heap.size; simp))⟩
    · have HX := Lib.hid hx
      have HY := Lib.hid hy
      clear hx hy
      go_enter Tryd.func21, Tryd.ntmps21
      go_wp2_with fail
      refine (zzCut_c t _ _ (by omega) (by decide)).mono ?_
      rintro e w1 ⟨rfl, n, rfl⟩
      rw [HC.out]
      go_wp2_with fail
      refine (isToken_c A _ (by omega)).mono ?_
      rintro e w2 ⟨rfl, hb2⟩
      rw [HX.out]
      have b2 := (((Below.refl _ w).alloc (Nat.le_refl _) (.cells #[.pointer none, .slice none 0 0] 43)).trans (drewN_below _ n |>.mono (by simp))).trans (hb2.mono (by show w.heap.size ≤ (w.alloc _).heap.size; simp))
      go_wp2_with fail
      refine (isToken_c B _ (by omega)).mono ?_
      rintro e w3 ⟨rfl, hb3⟩
      rw [HY.out]
      go_wp2_with fail
      go_ret
      exact ⟨rfl, b2.trans (hb3.mono b2.size)⟩

set_option maxHeartbeats 8000000 in
set_option maxRecDepth 100000 in
theorem formatMT_yes (t : ByteArray) (mb nn : Nat) (D : DataW Unit) (w : World) (ht : t.size ≤ 16777216) (h : TypeIs (L t)) (hm : MapIs mb nn D w) (hn : Maps.size D ≤ 1048576) (hk : ∀ k ∈ strKeys D, k.length ≤ 1048576) (hv : ∀ k, (valD D k).length ≤ 1048576) :
    Calls Tryd.prog 21 #[.string t, .map (some mb)] w fun e w' => (∃ ss : List (List UInt8), ss.Perm (strKeys D) ∧ e = .returned (.string ⟨(fmtR (L t) D (ss.mergeSort (fun x y => decide (x ≤ y)))).toArray⟩)) ∧ Below w.heap.size w w' := by
  have hml : mb < w.heap.size := World.ownsMap.lt hm
  have HM := Lib.hid hm
  have HK := Lib.hid (And.intro hk hv)
  clear hm hk hv
  rcases h with h | ⟨a, b, hl, ha, hb⟩
  · have HC := Lib.hid (show cutOf t ⟨#[47]⟩ = .tuple #[.string t, .string ⟨#[]⟩, .bool false] by unfold cutOf; rw [show ixOf (L ⟨#[47]⟩) (L t) = none from ix_absent _ _ (no_slash _ (isTok_parts _ h).2)])
    have HI := Lib.hid h
    have HA := Lib.hid (tok_ascii _ h)
    clear h
    go_enter Tryd.func21, Tryd.ntmps21
    go_wp2_with fail
    refine (zzCut_c t _ _ (by omega) (by decide)).mono ?_
    rintro e w1 ⟨rfl, n, rfl⟩
    rw [HC.out]
    have hst := (St.start (bld_fresh w)).makes (drewN_below _ n)
    go_wp2_with fail
    refine (stMakes hst (isToken_c t _ (by omega))).mono ?_
    rintro e w2 ⟨rfl, hst2⟩
    rw [HI.out]
    go_wp2_with fail
    refine (stMakes hst2 (toLower_c t _ (by omega) HA.out)).mono ?_
    rintro e w3 ⟨rfl, hst3⟩
    obtain ⟨lt, hlt, hlts⟩ := text_of (Lib.toLowerA (L t))
    have HLT := Lib.hid (show (⟨(Lib.toLowerA (L t)).toArray⟩ : ByteArray) = lt from L_inj (by rw [L_mk, hlt]))
    rw [HLT.out]
    rw [low_len, L_length] at hlts
    go_wp2_with fail
    refine (stString hst3 lt (by simp; omega)).mono ?_
    rintro e w4 ⟨rfl, hst4⟩
    rw [List.nil_append, hlt] at hst4
    have HST := Lib.hid hst4
    clear hst hst2 hst3 hst4 hlt hlts
    go_wp2_with fail
    refine (callsIn_wide.1 (Tryd.maps_Keys_34 (some mb) _)).mono ?_
    rintro e wk ⟨rfl, rfl⟩
    go_wp2_with fail
    refine (callsIn_wide.1 (Tryd.slices_Sorted_keys_33_34 mb nn D _ _ (MapIs.below HM.out hml (((Below.refl _ w).alloc (Nat.le_refl _) _).trans HST.out.bel)) (by unfold maxLen; omega) (by omega))).mono ?_
    rintro e w5 ⟨v, ss, rfl, hperm, hrow, hnil, hb5⟩
    obtain ⟨ks, hks⟩ : ∃ ks, ks = ss.mergeSort (fun x y => decide (x ≤ y)) := ⟨_, rfl⟩
    have hst5 := (HST.out.makes ((Below.refl w4.heap.size w4).alloc (Nat.le_refl _) _)).makes hb5
    have b5 : Below w.heap.size w w5 := ((Below.refl _ w).alloc (Nat.le_refl _) _).trans hst5.bel
    have hst6 := St.start hst5.bld
    have hlen : ss.length = ks.length := by rw [hks, List.length_mergeSort]
    have hlen2 : ks.length ≤ 1048576 := by
      rw [← hlen, hperm.length_eq]
      obtain ⟨es, rfl, _⟩ := World.ownsMap.keysOf HM.out
      simpa [strKeys, Maps.size] using hn
    have hmem : ∀ k ∈ ks, k.length ≤ 1048576 := fun k hk => HK.out.1 k (hperm.mem_iff.1 (List.mem_mergeSort.1 (hks ▸ hk)))
    rw [← hks] at hrow
    obtain ⟨p, cap, rfl, hrows⟩ : ∃ p cap, v = .slice p ks.length cap ∧ (ks = [] ∨ ∃ g cur, p = some ⟨g, 0, none⟩ ∧ g ≠ w.heap.size ∧ w5.heap[g]? = some (.cells cur 9 (0, 0)) ∧ cur.toList.take ks.length = ks.map encStr) := by
      rcases hrow.2 with ⟨rfl, h0⟩ | ⟨g, cap, cur, rfl, hBg, hcur, hnc, hcm, hcs, htake⟩
      · have : ks = [] := List.eq_nil_of_length_eq_zero (by omega)
        subst this
        exact ⟨none, 0, rfl, .inl rfl⟩
      · refine ⟨some ⟨g, 0, none⟩, cap, by rw [hlen], .inr ⟨g, cur, rfl, ?_, hcur, by rw [← htake, Nat.mul_one, hlen]⟩⟩
        have h1 := HST.out.bld.2
        have h2 := HST.out.bel.size
        simp only [World.size_alloc] at hBg h2
        omega
    have HP := Lib.hid hperm
    have HKS := Lib.hid hks
    have HMEM := Lib.hid hmem
    have HS6 := Lib.hid hst6
    have B5 := Lib.hid b5
    clear hperm hks hmem hst6 b5 hst5 hrow hnil hb5 hlen HST
    go_wp2_with fail
    go_loopw [4, 52] (fun _ iv wr => ∃ (k : Nat) (acc : List UInt8), iv = .int .i64 k ∧ k ≤ ks.length ∧ St w.heap.size w.heap.size acc w5 wr ∧ acc = Lib.toLowerA (L t) ++ fmtAll D (ks.take k) ∧ (ks.take k).all isTok = true ∧ acc.length ≤ 16777216 + k * 8388608) (fun _ iv _ => ks.length - (intOf iv).toNat)
    case atStart => exact ⟨0, Lib.toLowerA (L t), rfl, Nat.zero_le _, HS6.out, by simp [fmtAll], rfl, by rw [low_len, L_length]; omega⟩
    case round =>
      obtain ⟨k, acc, rfl, hk, hst, hacc, hall, hal⟩ := hrel
      have HA := Lib.hid hacc
      have HL := Lib.hid hall
      clear hacc hall
      by_cases hlt : k < ks.length
      · obtain ⟨a, ha⟩ : ∃ a : ByteArray, ks[k]? = some (L a) := ⟨⟨ks[k].toArray⟩, by rw [L_mk]; exact List.getElem?_eq_getElem hlt⟩
        rcases hrows with h0 | ⟨g, cur, rfl, hgb, hcur, htk⟩
        · rw [h0] at hlt; simp at hlt
        have c0 := row_at (hst.nb g cur _ _ hgb (by decide) hcur) htk k a ha
        have has : a.size ≤ 1048576 := by rw [← L_length]; exact HMEM.out (L a) (List.mem_of_getElem? ha)
        obtain ⟨x, hlk, hx⟩ := MapIs.lookup0 (MapIs.below HM.out hml (B5.out.trans hst.bel)) a (by unfold maxLen; omega)
        have hxs : x.size ≤ 1048576 := by rw [← L_length, hx]; exact HK.out.2 _
        have HE := Lib.hid (show ∀ z, z = acc ++ fmt1 (L a) (L x) → z = Lib.toLowerA (L t) ++ fmtAll D (ks.take (k + 1)) from fun z hz => by
          rw [hz, HA.out, hx, List.take_add_one, ha]
          simp [fmtAll])
        have HR := Lib.hid (show isTok (L a) = false → fmtR (L t) D ks = [] from fun hf => by
          unfold fmtR
          rw [if_neg]
          intro h
          have := List.all_eq_true.1 h (L a) (List.mem_of_getElem? ha)
          rw [hf] at this; cases this)
        have HL2 := Lib.hid (show isTok (L a) = true → (ks.take (k + 1)).all isTok = true from fun hf => by
          rw [List.take_add_one, ha, List.all_append, HL.out]
          simp [hf])
        have hk2 : k + 1 ≤ 1048576 := by omega
        have hf1 := fmt1_len (L a) (L x)
        rw [L_length, L_length] at hf1
        clear hx ha hcur htk hgb
        cases htok : isTok (L a)
        · have HT := Lib.hid htok
          clear htok
          go_wp2_with fail
          refine (stByte hst 59 (by omega)).mono ?_
          rintro e w6 ⟨rfl, hst1⟩
          go_wp2_with fail
          refine (stByte hst1 32 (by simp; omega)).mono ?_
          rintro e w7 ⟨rfl, hst2⟩
          go_wp2_with fail
          refine (stMakes hst2 (isToken_c a _ (by omega))).mono ?_
          rintro e w8 ⟨rfl, hst3⟩
          rw [HT.out]
          go_wp2_with fail
          go_ret
          exact ⟨⟨ss, HP.out, by rw [← HKS.out, HR.out HT.out]; rfl⟩, B5.out.trans hst3.bel⟩
        · have HT := Lib.hid htok
          have HAS := Lib.hid (tok_ascii _ htok)
          clear htok
          obtain ⟨la, hla, hlas⟩ := text_of (Lib.toLowerA (L a))
          have HLA := Lib.hid (show (⟨(Lib.toLowerA (L a)).toArray⟩ : ByteArray) = la from L_inj (by rw [L_mk, hla]))
          have HLB := Lib.hid hla
          rw [low_len, L_length] at hlas
          have hlas1 : la.size ≤ 1048576 := by omega
          clear hla hlas
          cases hp : allB prB (L x)
          · have HPR := Lib.hid hp
            have HV := Lib.hid (show fmt1 (L a) (L x) = 59 :: 32 :: (L la ++ 42 :: 61 :: ([117, 116, 102, 45, 56, 39, 39] ++ escA (L x))) by unfold fmt1 fmtV; rw [if_neg (by rw [hp]; decide), HLB.out])
            clear hp
            go_wp2_with fail
            refine (stByte hst 59 (by omega)).mono ?_
            rintro e w6 ⟨rfl, hst1⟩
            go_wp2_with fail
            refine (stByte hst1 32 (by simp; omega)).mono ?_
            rintro e w7 ⟨rfl, hst2⟩
            go_wp2_with fail
            refine (stMakes hst2 (isToken_c a _ (by omega))).mono ?_
            rintro e w8 ⟨rfl, hst3⟩
            rw [HT.out]
            go_wp2_with fail
            refine (stMakes hst3 (toLower_c a _ (by omega) HAS.out)).mono ?_
            rintro e w9 ⟨rfl, hst4⟩
            rw [HLA.out]
            go_wp2_with fail
            refine (stString hst4 la (by simp; omega)).mono ?_
            rintro e w10 ⟨rfl, hst5⟩
            go_wp2_with fail
            refine (stMakes hst5 (needsEncoding_c x _)).mono ?_
            rintro e w11 ⟨rfl, hst6⟩
            rw [HPR.out]
            go_wp2_with fail
            refine (stByte hst6 42 (by simp [L_length]; omega)).mono ?_
            rintro e w12 ⟨rfl, hst7⟩
            go_wp2_with fail
            refine (stByte hst7 61 (by simp [L_length]; omega)).mono ?_
            rintro e w13 ⟨rfl, hst8⟩
            go_wp2_with fail
            refine (stString hst8 ⟨#[117, 116, 102, 45, 56, 39, 39]⟩ (by simp only [List.length_append, L_length, List.length_cons, List.length_nil]; have : (⟨#[117, 116, 102, 45, 56, 39, 39]⟩ : ByteArray).size = 7 := rfl; omega)).mono ?_
            rintro e w14 ⟨rfl, hst9⟩
            obtain ⟨base, hbase⟩ : ∃ base, base = acc ++ [59] ++ [32] ++ L la ++ [42] ++ [61] ++ L ⟨#[117, 116, 102, 45, 56, 39, 39]⟩ := ⟨_, rfl⟩
            have hbl : base.length ≤ acc.length + 1048576 + 11 := by rw [hbase]; simp only [List.length_append, L_length, List.length_cons, List.length_nil]; have : (⟨#[117, 116, 102, 45, 56, 39, 39]⟩ : ByteArray).size = 7 := rfl; omega
            rw [← hbase] at hst9
            have HB := Lib.hid hbase
            have HS9 := Lib.hid hst9
            clear hst hst1 hst2 hst3 hst4 hst5 hst6 hst7 hst8 hst9 hbase
            go_wp2_with fail
            go_loopw [13, 14] (fun ov iv wi => ∃ (i o : Nat) (ac : List UInt8), iv = .int .i64 i ∧ ov = .int .i64 o ∧ o ≤ i ∧ i ≤ x.size ∧ St w.heap.size w.heap.size ac w5 wi ∧ ac ++ ((L x).drop o).take (i - o) = base ++ escA ((L x).take i) ∧ ac.length ≤ base.length + 3 * i) (fun _ iv _ => x.size - (intOf iv).toNat)
            case atStart => exact ⟨0, 0, base, rfl, rfl, Nat.le_refl _, Nat.zero_le _, HS9.out, by simp [escA], by omega⟩
            case round =>
              obtain ⟨i, o, ac, rfl, rfl, hoi, hix, hst, hseg, hacl⟩ := hrel
              have HSG := Lib.hid hseg
              clear hseg
              by_cases hi : i < x.size
              · have hTN := take_next x i hi
                have hPN := part_next x o i hoi hi
                have SL : ∀ w, (Instr.slice 9 (.string x) (some (.int .i64 (o : Int))) (some (.int .i64 (i : Int))) none).run Tryd.prog w = .ok (.string (x.extract o i)) w := fun w => by
                  have := slice_eq x o (i - o) (by omega) w
                  rw [show (o : Int) + ((i - o : Nat) : Int) = (i : Int) by omega, show o + (i - o) = i by omega] at this
                  exact this
                have hxl : L (x.extract o i) = ((L x).drop o).take (i - o) := extract_L x o i
                have hxz : (x.extract o i).size ≤ i := by rw [← L_length, hxl, List.length_take]; omega
                cases hat : attrB x[i]
                · have HTK := Lib.hid hat
                  obtain ⟨hh, hhh, hh16⟩ : ∃ hh, hh = x[i].toNat / 16 ∧ hh < 16 := ⟨_, rfl, by have := x[i].toNat_lt; omega⟩
                  obtain ⟨ll, hll, ll16⟩ : ∃ ll, ll = x[i].toNat % 16 ∧ ll < 16 := ⟨_, rfl, by omega⟩
                  have HXW := Lib.hid (show ac ++ L (x.extract o i) = base ++ escA ((L x).take i) by rw [hxl]; exact HSG.out)
                  have hel : (escA ((L x).take i)).length ≤ 3 * i := by have := escA_len ((L x).take i); rw [List.length_take, L_length] at this; omega
                  have hel2 : (base ++ escA ((L x).take i)).length ≤ base.length + 3 * i := by rw [List.length_append]; omega
                  have hel3 : base.length + (escA ((L x).take i)).length ≤ base.length + 3 * i := by omega
                  have HNX := Lib.hid (show base ++ escA ((L x).take i) ++ [37] ++ [hexCap hh] ++ [hexCap ll] ++ ((L x).drop (i + 1)).take (i + 1 - (i + 1)) = base ++ escA ((L x).take (i + 1)) by
                    rw [hTN, escA_snoc, escW, if_neg (by rw [hat]; decide), hhh, hll]; simp)
                  have HLN := Lib.hid (show (base ++ escA ((L x).take i) ++ [37] ++ [hexCap hh] ++ [hexCap ll]).length ≤ base.length + 3 * (i + 1) by simp only [List.length_append, List.length_cons, List.length_nil] at hel2 ⊢; omega)
                  have q1 : IntKind.u8.wrap ((x[i].toNat : Int) / 16) = (hh : Int) := by rw [IntWalk.u8_in _ (by omega)]; omega
                  have q0 : (x[i].toNat : Int) / 16 = (hh : Int) := by omega
                  have q2 : bits .and .u8 (x[i].toNat : Int) 15 = (ll : Int) := by rw [hll]; exact and15 x[i]
                  have q3 : (hh : Int) < 16 := by omega
                  have q4 : (ll : Int) < 16 := by omega
                  have q5 := cap_at hh hh16
                  have q6 := cap_at ll ll16
                  have hcase := attr_no x[i] hat
                  clear hhh hll hTN hPN hxl hel hat HTK
                  rcases hcase with h32 | ⟨h32, h127⟩ | ⟨h32, h127, h42⟩ | ⟨h32, h127, h42, h39⟩ | ⟨h32, h127, h42, h39, h37⟩ | ⟨h32, h127, h42, h39, h37, hsp⟩
                  · go_wp2_with fail
                    refine (stString hst (x.extract o i) (by omega)).mono ?_
                    rintro e w15 ⟨rfl, hst1⟩
                    rw [HXW.out] at hst1
                    go_wp2_with fail
                    refine (stByte hst1 37 (by omega)).mono ?_
                    rintro e w16 ⟨rfl, hst2⟩
                    go_wp2_with fail
                    refine (stByte hst2 (hexCap hh) (by simp only [List.length_append, List.length_cons, List.length_nil]; omega)).mono ?_
                    rintro e w17 ⟨rfl, hst3⟩
                    go_wp2_with fail
                    refine (stByte hst3 (hexCap ll) (by simp only [List.length_append, List.length_cons, List.length_nil]; omega)).mono ?_
                    rintro e w18 ⟨rfl, hst4⟩
                    go_wp2_with fail
                    go_roundw
                    case rel => exact ⟨i + 1, i + 1, _, by go_num, by go_num, Nat.le_refl _, by omega, hst4, HNX.out, HLN.out⟩
                    case measure => simp [intOf]; omega
                  · go_wp2_with fail
                    refine (stString hst (x.extract o i) (by omega)).mono ?_
                    rintro e w15 ⟨rfl, hst1⟩
                    rw [HXW.out] at hst1
                    go_wp2_with fail
                    refine (stByte hst1 37 (by omega)).mono ?_
                    rintro e w16 ⟨rfl, hst2⟩
                    go_wp2_with fail
                    refine (stByte hst2 (hexCap hh) (by simp only [List.length_append, List.length_cons, List.length_nil]; omega)).mono ?_
                    rintro e w17 ⟨rfl, hst3⟩
                    go_wp2_with fail
                    refine (stByte hst3 (hexCap ll) (by simp only [List.length_append, List.length_cons, List.length_nil]; omega)).mono ?_
                    rintro e w18 ⟨rfl, hst4⟩
                    go_wp2_with fail
                    go_roundw
                    case rel => exact ⟨i + 1, i + 1, _, by go_num, by go_num, Nat.le_refl _, by omega, hst4, HNX.out, HLN.out⟩
                    case measure => simp [intOf]; omega
                  · go_wp2_with fail
                    refine (stString hst (x.extract o i) (by omega)).mono ?_
                    rintro e w15 ⟨rfl, hst1⟩
                    rw [HXW.out] at hst1
                    go_wp2_with fail
                    refine (stByte hst1 37 (by omega)).mono ?_
                    rintro e w16 ⟨rfl, hst2⟩
                    go_wp2_with fail
                    refine (stByte hst2 (hexCap hh) (by simp only [List.length_append, List.length_cons, List.length_nil]; omega)).mono ?_
                    rintro e w17 ⟨rfl, hst3⟩
                    go_wp2_with fail
                    refine (stByte hst3 (hexCap ll) (by simp only [List.length_append, List.length_cons, List.length_nil]; omega)).mono ?_
                    rintro e w18 ⟨rfl, hst4⟩
                    go_wp2_with fail
                    go_roundw
                    case rel => exact ⟨i + 1, i + 1, _, by go_num, by go_num, Nat.le_refl _, by omega, hst4, HNX.out, HLN.out⟩
                    case measure => simp [intOf]; omega
                  · go_wp2_with fail
                    refine (stString hst (x.extract o i) (by omega)).mono ?_
                    rintro e w15 ⟨rfl, hst1⟩
                    rw [HXW.out] at hst1
                    go_wp2_with fail
                    refine (stByte hst1 37 (by omega)).mono ?_
                    rintro e w16 ⟨rfl, hst2⟩
                    go_wp2_with fail
                    refine (stByte hst2 (hexCap hh) (by simp only [List.length_append, List.length_cons, List.length_nil]; omega)).mono ?_
                    rintro e w17 ⟨rfl, hst3⟩
                    go_wp2_with fail
                    refine (stByte hst3 (hexCap ll) (by simp only [List.length_append, List.length_cons, List.length_nil]; omega)).mono ?_
                    rintro e w18 ⟨rfl, hst4⟩
                    go_wp2_with fail
                    go_roundw
                    case rel => exact ⟨i + 1, i + 1, _, by go_num, by go_num, Nat.le_refl _, by omega, hst4, HNX.out, HLN.out⟩
                    case measure => simp [intOf]; omega
                  · go_wp2_with fail
                    refine (stString hst (x.extract o i) (by omega)).mono ?_
                    rintro e w15 ⟨rfl, hst1⟩
                    rw [HXW.out] at hst1
                    go_wp2_with fail
                    refine (stByte hst1 37 (by omega)).mono ?_
                    rintro e w16 ⟨rfl, hst2⟩
                    go_wp2_with fail
                    refine (stByte hst2 (hexCap hh) (by simp only [List.length_append, List.length_cons, List.length_nil]; omega)).mono ?_
                    rintro e w17 ⟨rfl, hst3⟩
                    go_wp2_with fail
                    refine (stByte hst3 (hexCap ll) (by simp only [List.length_append, List.length_cons, List.length_nil]; omega)).mono ?_
                    rintro e w18 ⟨rfl, hst4⟩
                    go_wp2_with fail
                    go_roundw
                    case rel => exact ⟨i + 1, i + 1, _, by go_num, by go_num, Nat.le_refl _, by omega, hst4, HNX.out, HLN.out⟩
                    case measure => simp [intOf]; omega
                  · have HSP := Lib.hid hsp
                    clear hsp
                    go_wp2_with fail
                    refine (stMakes hst ((isTSpecial_c x[i] _).mono fun _ _ h => h.makes)).mono ?_
                    rintro e w14 ⟨rfl, hst⟩
                    rw [HSP.out]
                    go_wp2_with fail
                    refine (stString hst (x.extract o i) (by omega)).mono ?_
                    rintro e w15 ⟨rfl, hst1⟩
                    rw [HXW.out] at hst1
                    go_wp2_with fail
                    refine (stByte hst1 37 (by omega)).mono ?_
                    rintro e w16 ⟨rfl, hst2⟩
                    go_wp2_with fail
                    refine (stByte hst2 (hexCap hh) (by simp only [List.length_append, List.length_cons, List.length_nil]; omega)).mono ?_
                    rintro e w17 ⟨rfl, hst3⟩
                    go_wp2_with fail
                    refine (stByte hst3 (hexCap ll) (by simp only [List.length_append, List.length_cons, List.length_nil]; omega)).mono ?_
                    rintro e w18 ⟨rfl, hst4⟩
                    go_wp2_with fail
                    go_roundw
                    case rel => exact ⟨i + 1, i + 1, _, by go_num, by go_num, Nat.le_refl _, by omega, hst4, HNX.out, HLN.out⟩
                    case measure => simp [intOf]; omega
                · have HTK := Lib.hid hat
                  obtain ⟨h32, h127, h42, h39, h37, hsp⟩ := attr_yes x[i] hat
                  have HNX := Lib.hid (show ac ++ ((L x).drop o).take (i + 1 - o) = base ++ escA ((L x).take (i + 1)) by
                    rw [hPN, hTN, escA_snoc, escW, if_pos hat, ← List.append_assoc, HSG.out, List.append_assoc])
                  have HSP := Lib.hid hsp
                  clear hTN hPN hxl hat HTK hsp
                  go_wp2_with fail
                  refine (stMakes hst ((isTSpecial_c x[i] _).mono fun _ _ h => h.makes)).mono ?_
                  rintro e w14 ⟨rfl, hst1⟩
                  rw [HSP.out]
                  go_wp2_with fail
                  go_roundw
                  case rel => exact ⟨i + 1, o, ac, by go_num, rfl, by omega, by omega, hst1, HNX.out, by omega⟩
                  case measure => simp [intOf]; omega
              · have hie : i = x.size := by omega
                have HEnd := Lib.hid (show ac ++ L (x.extract o x.size) = base ++ escA (L x) by have h := HSG.out; have q1 : (L x).take x.size = L x := List.take_of_length_le (by rw [L_length]; exact Nat.le_refl _); rw [hie, q1] at h; rw [← h, extract_L])
                have hez : (x.extract o x.size).size ≤ x.size := by rw [← L_length, extract_L, List.length_take]; omega
                have hi1 : x.size ≤ i := by omega
                clear hie
                go_wp2_with fail
                refine (stString hst (x.extract o x.size) (by omega)).mono ?_
                rintro e w15 ⟨rfl, hst1⟩
                rw [HEnd.out] at hst1
                go_wp2_with fail
                go_roundw
                case rel => exact ⟨k + 1, base ++ escA (L x), by go_num, by omega, hst1, HE.out _ (by rw [HV.out, HB.out]; simp [L]), HL2.out HT.out, by have := escA_len (L x); rw [L_length] at this; rw [List.length_append]; omega⟩
                case measure => simp [intOf]; omega
          · have HPR := Lib.hid hp
            cases hxt : isTok (L x)
            · have HXT := Lib.hid hxt
              have HV := Lib.hid (show fmt1 (L a) (L x) = 59 :: 32 :: (L la ++ 61 :: (34 :: esc (L x) ++ [34])) by unfold fmt1 fmtV; rw [if_pos hp, if_neg (by rw [hxt]; decide), HLB.out]; rfl)
              clear hp hxt
              go_wp2_with fail
              refine (stByte hst 59 (by omega)).mono ?_
              rintro e w6 ⟨rfl, hst1⟩
              go_wp2_with fail
              refine (stByte hst1 32 (by simp; omega)).mono ?_
              rintro e w7 ⟨rfl, hst2⟩
              go_wp2_with fail
              refine (stMakes hst2 (isToken_c a _ (by omega))).mono ?_
              rintro e w8 ⟨rfl, hst3⟩
              rw [HT.out]
              go_wp2_with fail
              refine (stMakes hst3 (toLower_c a _ (by omega) HAS.out)).mono ?_
              rintro e w9 ⟨rfl, hst4⟩
              rw [HLA.out]
              go_wp2_with fail
              refine (stString hst4 la (by simp; omega)).mono ?_
              rintro e w10 ⟨rfl, hst5⟩
              go_wp2_with fail
              refine (stMakes hst5 (needsEncoding_c x _)).mono ?_
              rintro e w11 ⟨rfl, hst6⟩
              rw [HPR.out]
              go_wp2_with fail
              refine (stByte hst6 61 (by simp [L_length]; omega)).mono ?_
              rintro e w12 ⟨rfl, hst7⟩
              go_wp2_with fail
              refine (stMakes hst7 (isToken_c x _ (by omega))).mono ?_
              rintro e w13 ⟨rfl, hst8⟩
              rw [HXT.out]
              go_wp2_with fail
              refine (stByte hst8 34 (by simp [L_length]; omega)).mono ?_
              rintro e w14 ⟨rfl, hst9⟩
              obtain ⟨base, hbase⟩ : ∃ base, base = acc ++ [59] ++ [32] ++ L la ++ [61] ++ [34] := ⟨_, rfl⟩
              have hbl : base.length ≤ acc.length + 1048576 + 11 := by rw [hbase]; simp only [List.length_append, L_length, List.length_cons, List.length_nil]; omega
              rw [← hbase] at hst9
              have HB := Lib.hid hbase
              have HS9 := Lib.hid hst9
              clear hst hst1 hst2 hst3 hst4 hst5 hst6 hst7 hst8 hst9 hbase
              go_wp2_with fail
              go_loopw [16, 17] (fun ov iv wi => ∃ (i o : Nat) (ac : List UInt8), iv = .int .i64 i ∧ ov = .int .i64 o ∧ o ≤ i ∧ i ≤ x.size ∧ St w.heap.size w.heap.size ac w5 wi ∧ ac ++ ((L x).drop o).take (i - o) = base ++ esc ((L x).take i) ∧ ac.length ≤ base.length + 3 * i) (fun _ iv _ => x.size - (intOf iv).toNat)
              case atStart => exact ⟨0, 0, base, rfl, rfl, Nat.le_refl _, Nat.zero_le _, HS9.out, by simp [esc], by omega⟩
              case round =>
                obtain ⟨i, o, ac, rfl, rfl, hoi, hix, hst, hseg, hacl⟩ := hrel
                have HSG := Lib.hid hseg
                clear hseg
                by_cases hi : i < x.size
                · have hTN := take_next x i hi
                  have hPN := part_next x o i hoi hi
                  have SL : ∀ w, (Instr.slice 9 (.string x) (some (.int .i64 (o : Int))) (some (.int .i64 (i : Int))) none).run Tryd.prog w = .ok (.string (x.extract o i)) w := fun w => by
                    have := slice_eq x o (i - o) (by omega) w
                    rw [show (o : Int) + ((i - o : Nat) : Int) = (i : Int) by omega, show o + (i - o) = i by omega] at this
                    exact this
                  have hxl : L (x.extract o i) = ((L x).drop o).take (i - o) := extract_L x o i
                  have hxz : (x.extract o i).size ≤ i := by rw [← L_length, hxl, List.length_take]; omega
                  by_cases hq : x[i] = 92 ∨ x[i] = 34
                  · have HXW := Lib.hid (show ac ++ L (x.extract o i) = base ++ esc ((L x).take i) by rw [hxl]; exact HSG.out)
                    have hel : (esc ((L x).take i)).length ≤ 2 * i := by have := esc_len ((L x).take i); rw [List.length_take, L_length] at this; omega
                    have hel2 : (base ++ esc ((L x).take i)).length ≤ base.length + 2 * i := by rw [List.length_append]; omega
                    have HNX := Lib.hid (show base ++ esc ((L x).take i) ++ [92] ++ ((L x).drop i).take (i + 1 - i) = base ++ esc ((L x).take (i + 1)) by
                      have h := part_next x i i (Nat.le_refl _) hi
                      rw [h, hTN, esc_snoc, if_pos hq]; simp)
                    have HLN := Lib.hid (show (base ++ esc ((L x).take i) ++ [92]).length ≤ base.length + 3 * (i + 1) by simp only [List.length_append, List.length_cons, List.length_nil] at hel2 ⊢; omega)
                    have hcase : ((x[i].toNat : Int) == 34) = true ∨ (((x[i].toNat : Int) == 34) = false ∧ ((x[i].toNat : Int) == 92) = true) := by
                      by_cases h34 : x[i] = 34
                      · exact .inl (beq_yes _ 34 _ rfl h34)
                      · exact .inr ⟨beq_no _ 34 _ rfl h34, beq_yes _ 92 _ rfl (hq.resolve_right h34)⟩
                    clear hTN hPN hxl hel hq
                    rcases hcase with t34 | ⟨t34, t92⟩
                    all_goals
                      go_wp2_with fail
                      refine (stString hst (x.extract o i) (by omega)).mono ?_
                      rintro e w15 ⟨rfl, hst1⟩
                      rw [HXW.out] at hst1
                      go_wp2_with fail
                      refine (stByte hst1 92 (by omega)).mono ?_
                      rintro e w16 ⟨rfl, hst2⟩
                      go_wp2_with fail
                      go_roundw
                      case rel => exact ⟨i + 1, i, _, by go_num, rfl, by omega, by omega, hst2, HNX.out, HLN.out⟩
                      case measure => simp [intOf]; omega
                  · have HNX := Lib.hid (show ac ++ ((L x).drop o).take (i + 1 - o) = base ++ esc ((L x).take (i + 1)) by
                      rw [hPN, hTN, esc_snoc, if_neg hq, ← List.append_assoc, HSG.out, List.append_assoc])
                    have t34 : ((x[i].toNat : Int) == 34) = false := beq_no _ 34 _ rfl (fun e => hq (.inr e))
                    have t92 : ((x[i].toNat : Int) == 92) = false := beq_no _ 92 _ rfl (fun e => hq (.inl e))
                    clear hTN hPN hxl hq
                    go_wp2_with fail
                    go_roundw
                    case rel => exact ⟨i + 1, o, ac, by go_num, rfl, by omega, by omega, hst, HNX.out, by omega⟩
                    case measure => simp [intOf]; omega
                · have hie : i = x.size := by omega
                  have HEnd := Lib.hid (show ac ++ L (x.extract o x.size) = base ++ esc (L x) by have h := HSG.out; have q1 : (L x).take x.size = L x := List.take_of_length_le (by rw [L_length]; exact Nat.le_refl _); rw [hie, q1] at h; rw [← h, extract_L])
                  have hez : (x.extract o x.size).size ≤ x.size := by rw [← L_length, extract_L, List.length_take]; omega
                  have hi1 : x.size ≤ i := by omega
                  clear hie
                  go_wp2_with fail
                  refine (stString hst (x.extract o x.size) (by omega)).mono ?_
                  rintro e w15 ⟨rfl, hst1⟩
                  rw [HEnd.out] at hst1
                  have hel : (esc (L x)).length ≤ 2 * x.size := by have := esc_len (L x); rw [L_length] at this; exact this
                  go_wp2_with fail
                  refine (stByte hst1 34 (by rw [List.length_append]; omega)).mono ?_
                  rintro e w16 ⟨rfl, hst2⟩
                  go_wp2_with fail
                  go_roundw
                  case rel => exact ⟨k + 1, base ++ esc (L x) ++ [34], by go_num, by omega, hst2, HE.out _ (by rw [HV.out, HB.out]; simp), HL2.out HT.out, by rw [List.length_append, List.length_append, List.length_cons, List.length_nil]; omega⟩
                  case measure => simp [intOf]; omega
            · have HXT := Lib.hid hxt
              have HV := Lib.hid (show fmt1 (L a) (L x) = 59 :: 32 :: (L la ++ 61 :: L x) by unfold fmt1 fmtV; rw [if_pos hp, if_pos hxt, HLB.out])
              clear hp hxt
              go_wp2_with fail
              refine (stByte hst 59 (by omega)).mono ?_
              rintro e w6 ⟨rfl, hst1⟩
              go_wp2_with fail
              refine (stByte hst1 32 (by simp; omega)).mono ?_
              rintro e w7 ⟨rfl, hst2⟩
              go_wp2_with fail
              refine (stMakes hst2 (isToken_c a _ (by omega))).mono ?_
              rintro e w8 ⟨rfl, hst3⟩
              rw [HT.out]
              go_wp2_with fail
              refine (stMakes hst3 (toLower_c a _ (by omega) HAS.out)).mono ?_
              rintro e w9 ⟨rfl, hst4⟩
              rw [HLA.out]
              go_wp2_with fail
              refine (stString hst4 la (by simp; omega)).mono ?_
              rintro e w10 ⟨rfl, hst5⟩
              go_wp2_with fail
              refine (stMakes hst5 (needsEncoding_c x _)).mono ?_
              rintro e w11 ⟨rfl, hst6⟩
              rw [HPR.out]
              go_wp2_with fail
              refine (stByte hst6 61 (by simp [L_length]; omega)).mono ?_
              rintro e w12 ⟨rfl, hst7⟩
              go_wp2_with fail
              refine (stMakes hst7 (isToken_c x _ (by omega))).mono ?_
              rintro e w13 ⟨rfl, hst8⟩
              rw [HXT.out]
              go_wp2_with fail
              refine (stString hst8 x (by simp [L_length]; omega)).mono ?_
              rintro e w14 ⟨rfl, hst9⟩
              go_wp2_with fail
              go_roundw
              case rel => exact ⟨k + 1, _, by go_num, by omega, hst9, HE.out _ (by rw [HV.out]; simp), HL2.out HT.out, by simp only [List.length_append, L_length, List.length_cons, List.length_nil]; omega⟩
              case measure => simp [intOf]; omega
      · have hke : k = ks.length := by omega
        have HF := Lib.hid (show acc = fmtR (L t) D ks by have h1 := HL.out; have h2 := HA.out; rw [hke, List.take_length] at h1 h2; unfold fmtR; rw [if_pos h1]; exact h2)
        have hk1 : ks.length ≤ k := by omega
        clear hke
        go_wp2_with fail
        refine (string_c _ _ _ _ hst.bld).mono ?_
        rintro e w7 ⟨rfl, hb7⟩
        rw [HF.out]
        go_wp2_with fail
        go_ret
        exact ⟨⟨ss, HP.out, by rw [← HKS.out]; rfl⟩, (B5.out.trans hst.bel).trans hb7⟩
  · obtain ⟨A, hA, hAs⟩ := text_of a
    obtain ⟨B, hB, hBs⟩ := text_of b
    have hsz : t.size = A.size + B.size + 1 := by rw [← L_length, hl, List.length_append, List.length_cons, hAs, hBs]; omega
    have HC := Lib.hid (show cutOf t ⟨#[47]⟩ = .tuple #[.string A, .string B, .bool true] by
      have hi : ixOf (L ⟨#[47]⟩) (L t) = some A.size := by rw [hl, hAs]; exact ix_there _ _ _ (no_slash _ (isTok_parts _ ha).2)
      have e1 : t.extract 0 A.size = A := L_inj (by rw [L_to, hl, hA, hAs, List.take_left])
      have e2 : t.extract (A.size + 1) t.size = B := L_inj (by rw [L_from, hl, hB, hAs, ← List.drop_drop, List.drop_left]; rfl)
      unfold cutOf
      rw [hi]
      show Value.tuple #[.string (t.extract 0 A.size), .string (t.extract (A.size + 1) t.size), .bool true] = _
      rw [e1, e2])
    have hIA : isTok (L A) = true := by rw [hA]; exact ha
    have hIB : isTok (L B) = true := by rw [hB]; exact hb
    have HIA := Lib.hid hIA
    have HIB := Lib.hid hIB
    have HAA := Lib.hid (tok_ascii _ hIA)
    have HAB := Lib.hid (tok_ascii _ hIB)
    obtain ⟨lA, hlA, hlAs⟩ := text_of (Lib.toLowerA (L A))
    obtain ⟨lB, hlB, hlBs⟩ := text_of (Lib.toLowerA (L B))
    have HLA := Lib.hid (show (⟨(Lib.toLowerA (L A)).toArray⟩ : ByteArray) = lA from L_inj (by rw [L_mk, hlA]))
    have HLB := Lib.hid (show (⟨(Lib.toLowerA (L B)).toArray⟩ : ByteArray) = lB from L_inj (by rw [L_mk, hlB]))
    have HLT := Lib.hid (show L lA ++ [47] ++ L lB = Lib.toLowerA (L t) by
      rw [hlA, hlB, hl, hA, hB]
      unfold Lib.toLowerA
      rw [List.map_append, List.map_cons, List.append_assoc]
      rfl)
    rw [low_len, L_length] at hlAs hlBs
    have zA : A.size ≤ 16777216 := by omega
    have zB : B.size ≤ 16777216 := by omega
    have zlA : lA.size ≤ 16777216 := by omega
    have zlB : lB.size ≤ 16777216 := by omega
    clear hl ha hb hA hB hAs hBs hsz hIA hIB hlA hlB hlAs hlBs
    go_enter Tryd.func21, Tryd.ntmps21
    go_wp2_with fail
    refine (zzCut_c t _ _ (by omega) (by decide)).mono ?_
    rintro e w1 ⟨rfl, n, rfl⟩
    rw [HC.out]
    have hst := (St.start (bld_fresh w)).makes (drewN_below _ n)
    go_wp2_with fail
    refine (stMakes hst (isToken_c A _ (by omega))).mono ?_
    rintro e w2 ⟨rfl, hst2⟩
    rw [HIA.out]
    go_wp2_with fail
    refine (stMakes hst2 (isToken_c B _ (by omega))).mono ?_
    rintro e w3 ⟨rfl, hst3⟩
    rw [HIB.out]
    go_wp2_with fail
    refine (stMakes hst3 (toLower_c A _ (by omega) HAA.out)).mono ?_
    rintro e w3a ⟨rfl, hst4⟩
    rw [HLA.out]
    go_wp2_with fail
    refine (stString hst4 lA (by simp; omega)).mono ?_
    rintro e w3b ⟨rfl, hst5⟩
    rw [List.nil_append] at hst5
    go_wp2_with fail
    refine (stByte hst5 47 (by rw [L_length]; omega)).mono ?_
    rintro e w3c ⟨rfl, hst6⟩
    go_wp2_with fail
    refine (stMakes hst6 (toLower_c B _ (by omega) HAB.out)).mono ?_
    rintro e w3d ⟨rfl, hst7⟩
    rw [HLB.out]
    go_wp2_with fail
    refine (stString hst7 lB (by simp only [List.length_append, L_length, List.length_cons, List.length_nil]; omega)).mono ?_
    rintro e w4 ⟨rfl, hst8⟩
    rw [HLT.out] at hst8
    have HST := Lib.hid hst8
    clear hst hst2 hst3 hst4 hst5 hst6 hst7 hst8
    go_wp2_with fail
    refine (callsIn_wide.1 (Tryd.maps_Keys_34 (some mb) _)).mono ?_
    rintro e wk ⟨rfl, rfl⟩
    go_wp2_with fail
    refine (callsIn_wide.1 (Tryd.slices_Sorted_keys_33_34 mb nn D _ _ (MapIs.below HM.out hml (((Below.refl _ w).alloc (Nat.le_refl _) _).trans HST.out.bel)) (by unfold maxLen; omega) (by omega))).mono ?_
    rintro e w5 ⟨v, ss, rfl, hperm, hrow, hnil, hb5⟩
    obtain ⟨ks, hks⟩ : ∃ ks, ks = ss.mergeSort (fun x y => decide (x ≤ y)) := ⟨_, rfl⟩
    have hst5 := (HST.out.makes ((Below.refl w4.heap.size w4).alloc (Nat.le_refl _) _)).makes hb5
    have b5 : Below w.heap.size w w5 := ((Below.refl _ w).alloc (Nat.le_refl _) _).trans hst5.bel
    have hst6 := St.start hst5.bld
    have hlen : ss.length = ks.length := by rw [hks, List.length_mergeSort]
    have hlen2 : ks.length ≤ 1048576 := by
      rw [← hlen, hperm.length_eq]
      obtain ⟨es, rfl, _⟩ := World.ownsMap.keysOf HM.out
      simpa [strKeys, Maps.size] using hn
    have hmem : ∀ k ∈ ks, k.length ≤ 1048576 := fun k hk => HK.out.1 k (hperm.mem_iff.1 (List.mem_mergeSort.1 (hks ▸ hk)))
    rw [← hks] at hrow
    obtain ⟨p, cap, rfl, hrows⟩ : ∃ p cap, v = .slice p ks.length cap ∧ (ks = [] ∨ ∃ g cur, p = some ⟨g, 0, none⟩ ∧ g ≠ w.heap.size ∧ w5.heap[g]? = some (.cells cur 9 (0, 0)) ∧ cur.toList.take ks.length = ks.map encStr) := by
      rcases hrow.2 with ⟨rfl, h0⟩ | ⟨g, cap, cur, rfl, hBg, hcur, hnc, hcm, hcs, htake⟩
      · have : ks = [] := List.eq_nil_of_length_eq_zero (by omega)
        subst this
        exact ⟨none, 0, rfl, .inl rfl⟩
      · refine ⟨some ⟨g, 0, none⟩, cap, by rw [hlen], .inr ⟨g, cur, rfl, ?_, hcur, by rw [← htake, Nat.mul_one, hlen]⟩⟩
        have h1 := HST.out.bld.2
        have h2 := HST.out.bel.size
        simp only [World.size_alloc] at hBg h2
        omega
    have HP := Lib.hid hperm
    have HKS := Lib.hid hks
    have HMEM := Lib.hid hmem
    have HS6 := Lib.hid hst6
    have B5 := Lib.hid b5
    clear hperm hks hmem hst6 b5 hst5 hrow hnil hb5 hlen HST
    go_wp2_with fail
    go_loopw [4, 52] (fun _ iv wr => ∃ (k : Nat) (acc : List UInt8), iv = .int .i64 k ∧ k ≤ ks.length ∧ St w.heap.size w.heap.size acc w5 wr ∧ acc = Lib.toLowerA (L t) ++ fmtAll D (ks.take k) ∧ (ks.take k).all isTok = true ∧ acc.length ≤ 16777216 + k * 8388608) (fun _ iv _ => ks.length - (intOf iv).toNat)
    case atStart => exact ⟨0, Lib.toLowerA (L t), rfl, Nat.zero_le _, HS6.out, by simp [fmtAll], rfl, by rw [low_len, L_length]; omega⟩
    case round =>
      obtain ⟨k, acc, rfl, hk, hst, hacc, hall, hal⟩ := hrel
      have HA := Lib.hid hacc
      have HL := Lib.hid hall
      clear hacc hall
      by_cases hlt : k < ks.length
      · obtain ⟨a, ha⟩ : ∃ a : ByteArray, ks[k]? = some (L a) := ⟨⟨ks[k].toArray⟩, by rw [L_mk]; exact List.getElem?_eq_getElem hlt⟩
        rcases hrows with h0 | ⟨g, cur, rfl, hgb, hcur, htk⟩
        · rw [h0] at hlt; simp at hlt
        have c0 := row_at (hst.nb g cur _ _ hgb (by decide) hcur) htk k a ha
        have has : a.size ≤ 1048576 := by rw [← L_length]; exact HMEM.out (L a) (List.mem_of_getElem? ha)
        obtain ⟨x, hlk, hx⟩ := MapIs.lookup0 (MapIs.below HM.out hml (B5.out.trans hst.bel)) a (by unfold maxLen; omega)
        have hxs : x.size ≤ 1048576 := by rw [← L_length, hx]; exact HK.out.2 _
        have HE := Lib.hid (show ∀ z, z = acc ++ fmt1 (L a) (L x) → z = Lib.toLowerA (L t) ++ fmtAll D (ks.take (k + 1)) from fun z hz => by
          rw [hz, HA.out, hx, List.take_add_one, ha]
          simp [fmtAll])
        have HR := Lib.hid (show isTok (L a) = false → fmtR (L t) D ks = [] from fun hf => by
          unfold fmtR
          rw [if_neg]
          intro h
          have := List.all_eq_true.1 h (L a) (List.mem_of_getElem? ha)
          rw [hf] at this; cases this)
        have HL2 := Lib.hid (show isTok (L a) = true → (ks.take (k + 1)).all isTok = true from fun hf => by
          rw [List.take_add_one, ha, List.all_append, HL.out]
          simp [hf])
        have hk2 : k + 1 ≤ 1048576 := by omega
        have hf1 := fmt1_len (L a) (L x)
        rw [L_length, L_length] at hf1
        clear hx ha hcur htk hgb
        cases htok : isTok (L a)
        · have HT := Lib.hid htok
          clear htok
          go_wp2_with fail
          refine (stByte hst 59 (by omega)).mono ?_
          rintro e w6 ⟨rfl, hst1⟩
          go_wp2_with fail
          refine (stByte hst1 32 (by simp; omega)).mono ?_
          rintro e w7 ⟨rfl, hst2⟩
          go_wp2_with fail
          refine (stMakes hst2 (isToken_c a _ (by omega))).mono ?_
          rintro e w8 ⟨rfl, hst3⟩
          rw [HT.out]
          go_wp2_with fail
          go_ret
          exact ⟨⟨ss, HP.out, by rw [← HKS.out, HR.out HT.out]; rfl⟩, B5.out.trans hst3.bel⟩
        · have HT := Lib.hid htok
          have HAS := Lib.hid (tok_ascii _ htok)
          clear htok
          obtain ⟨la, hla, hlas⟩ := text_of (Lib.toLowerA (L a))
          have HLA := Lib.hid (show (⟨(Lib.toLowerA (L a)).toArray⟩ : ByteArray) = la from L_inj (by rw [L_mk, hla]))
          have HLB := Lib.hid hla
          rw [low_len, L_length] at hlas
          have hlas1 : la.size ≤ 1048576 := by omega
          clear hla hlas
          cases hp : allB prB (L x)
          · have HPR := Lib.hid hp
            have HV := Lib.hid (show fmt1 (L a) (L x) = 59 :: 32 :: (L la ++ 42 :: 61 :: ([117, 116, 102, 45, 56, 39, 39] ++ escA (L x))) by unfold fmt1 fmtV; rw [if_neg (by rw [hp]; decide), HLB.out])
            clear hp
            go_wp2_with fail
            refine (stByte hst 59 (by omega)).mono ?_
            rintro e w6 ⟨rfl, hst1⟩
            go_wp2_with fail
            refine (stByte hst1 32 (by simp; omega)).mono ?_
            rintro e w7 ⟨rfl, hst2⟩
            go_wp2_with fail
            refine (stMakes hst2 (isToken_c a _ (by omega))).mono ?_
            rintro e w8 ⟨rfl, hst3⟩
            rw [HT.out]
            go_wp2_with fail
            refine (stMakes hst3 (toLower_c a _ (by omega) HAS.out)).mono ?_
            rintro e w9 ⟨rfl, hst4⟩
            rw [HLA.out]
            go_wp2_with fail
            refine (stString hst4 la (by simp; omega)).mono ?_
            rintro e w10 ⟨rfl, hst5⟩
            go_wp2_with fail
            refine (stMakes hst5 (needsEncoding_c x _)).mono ?_
            rintro e w11 ⟨rfl, hst6⟩
            rw [HPR.out]
            go_wp2_with fail
            refine (stByte hst6 42 (by simp [L_length]; omega)).mono ?_
            rintro e w12 ⟨rfl, hst7⟩
            go_wp2_with fail
            refine (stByte hst7 61 (by simp [L_length]; omega)).mono ?_
            rintro e w13 ⟨rfl, hst8⟩
            go_wp2_with fail
            refine (stString hst8 ⟨#[117, 116, 102, 45, 56, 39, 39]⟩ (by simp only [List.length_append, L_length, List.length_cons, List.length_nil]; have : (⟨#[117, 116, 102, 45, 56, 39, 39]⟩ : ByteArray).size = 7 := rfl; omega)).mono ?_
            rintro e w14 ⟨rfl, hst9⟩
            obtain ⟨base, hbase⟩ : ∃ base, base = acc ++ [59] ++ [32] ++ L la ++ [42] ++ [61] ++ L ⟨#[117, 116, 102, 45, 56, 39, 39]⟩ := ⟨_, rfl⟩
            have hbl : base.length ≤ acc.length + 1048576 + 11 := by rw [hbase]; simp only [List.length_append, L_length, List.length_cons, List.length_nil]; have : (⟨#[117, 116, 102, 45, 56, 39, 39]⟩ : ByteArray).size = 7 := rfl; omega
            rw [← hbase] at hst9
            have HB := Lib.hid hbase
            have HS9 := Lib.hid hst9
            clear hst hst1 hst2 hst3 hst4 hst5 hst6 hst7 hst8 hst9 hbase
            go_wp2_with fail
            go_loopw [13, 14] (fun ov iv wi => ∃ (i o : Nat) (ac : List UInt8), iv = .int .i64 i ∧ ov = .int .i64 o ∧ o ≤ i ∧ i ≤ x.size ∧ St w.heap.size w.heap.size ac w5 wi ∧ ac ++ ((L x).drop o).take (i - o) = base ++ escA ((L x).take i) ∧ ac.length ≤ base.length + 3 * i) (fun _ iv _ => x.size - (intOf iv).toNat)
            case atStart => exact ⟨0, 0, base, rfl, rfl, Nat.le_refl _, Nat.zero_le _, HS9.out, by simp [escA], by omega⟩
            case round =>
              obtain ⟨i, o, ac, rfl, rfl, hoi, hix, hst, hseg, hacl⟩ := hrel
              have HSG := Lib.hid hseg
              clear hseg
              by_cases hi : i < x.size
              · have hTN := take_next x i hi
                have hPN := part_next x o i hoi hi
                have SL : ∀ w, (Instr.slice 9 (.string x) (some (.int .i64 (o : Int))) (some (.int .i64 (i : Int))) none).run Tryd.prog w = .ok (.string (x.extract o i)) w := fun w => by
                  have := slice_eq x o (i - o) (by omega) w
                  rw [show (o : Int) + ((i - o : Nat) : Int) = (i : Int) by omega, show o + (i - o) = i by omega] at this
                  exact this
                have hxl : L (x.extract o i) = ((L x).drop o).take (i - o) := extract_L x o i
                have hxz : (x.extract o i).size ≤ i := by rw [← L_length, hxl, List.length_take]; omega
                cases hat : attrB x[i]
                · have HTK := Lib.hid hat
                  obtain ⟨hh, hhh, hh16⟩ : ∃ hh, hh = x[i].toNat / 16 ∧ hh < 16 := ⟨_, rfl, by have := x[i].toNat_lt; omega⟩
                  obtain ⟨ll, hll, ll16⟩ : ∃ ll, ll = x[i].toNat % 16 ∧ ll < 16 := ⟨_, rfl, by omega⟩
                  have HXW := Lib.hid (show ac ++ L (x.extract o i) = base ++ escA ((L x).take i) by rw [hxl]; exact HSG.out)
                  have hel : (escA ((L x).take i)).length ≤ 3 * i := by have := escA_len ((L x).take i); rw [List.length_take, L_length] at this; omega
                  have hel2 : (base ++ escA ((L x).take i)).length ≤ base.length + 3 * i := by rw [List.length_append]; omega
                  have hel3 : base.length + (escA ((L x).take i)).length ≤ base.length + 3 * i := by omega
                  have HNX := Lib.hid (show base ++ escA ((L x).take i) ++ [37] ++ [hexCap hh] ++ [hexCap ll] ++ ((L x).drop (i + 1)).take (i + 1 - (i + 1)) = base ++ escA ((L x).take (i + 1)) by
                    rw [hTN, escA_snoc, escW, if_neg (by rw [hat]; decide), hhh, hll]; simp)
                  have HLN := Lib.hid (show (base ++ escA ((L x).take i) ++ [37] ++ [hexCap hh] ++ [hexCap ll]).length ≤ base.length + 3 * (i + 1) by simp only [List.length_append, List.length_cons, List.length_nil] at hel2 ⊢; omega)
                  have q1 : IntKind.u8.wrap ((x[i].toNat : Int) / 16) = (hh : Int) := by rw [IntWalk.u8_in _ (by omega)]; omega
                  have q0 : (x[i].toNat : Int) / 16 = (hh : Int) := by omega
                  have q2 : bits .and .u8 (x[i].toNat : Int) 15 = (ll : Int) := by rw [hll]; exact and15 x[i]
                  have q3 : (hh : Int) < 16 := by omega
                  have q4 : (ll : Int) < 16 := by omega
                  have q5 := cap_at hh hh16
                  have q6 := cap_at ll ll16
                  have hcase := attr_no x[i] hat
                  clear hhh hll hTN hPN hxl hel hat HTK
                  rcases hcase with h32 | ⟨h32, h127⟩ | ⟨h32, h127, h42⟩ | ⟨h32, h127, h42, h39⟩ | ⟨h32, h127, h42, h39, h37⟩ | ⟨h32, h127, h42, h39, h37, hsp⟩
                  · go_wp2_with fail
                    refine (stString hst (x.extract o i) (by omega)).mono ?_
                    rintro e w15 ⟨rfl, hst1⟩
                    rw [HXW.out] at hst1
                    go_wp2_with fail
                    refine (stByte hst1 37 (by omega)).mono ?_
                    rintro e w16 ⟨rfl, hst2⟩
                    go_wp2_with fail
                    refine (stByte hst2 (hexCap hh) (by simp only [List.length_append, List.length_cons, List.length_nil]; omega)).mono ?_
                    rintro e w17 ⟨rfl, hst3⟩
                    go_wp2_with fail
                    refine (stByte hst3 (hexCap ll) (by simp only [List.length_append, List.length_cons, List.length_nil]; omega)).mono ?_
                    rintro e w18 ⟨rfl, hst4⟩
                    go_wp2_with fail
                    go_roundw
                    case rel => exact ⟨i + 1, i + 1, _, by go_num, by go_num, Nat.le_refl _, by omega, hst4, HNX.out, HLN.out⟩
                    case measure => simp [intOf]; omega
                  · go_wp2_with fail
                    refine (stString hst (x.extract o i) (by omega)).mono ?_
                    rintro e w15 ⟨rfl, hst1⟩
                    rw [HXW.out] at hst1
                    go_wp2_with fail
                    refine (stByte hst1 37 (by omega)).mono ?_
                    rintro e w16 ⟨rfl, hst2⟩
                    go_wp2_with fail
                    refine (stByte hst2 (hexCap hh) (by simp only [List.length_append, List.length_cons, List.length_nil]; omega)).mono ?_
                    rintro e w17 ⟨rfl, hst3⟩
                    go_wp2_with fail
                    refine (stByte hst3 (hexCap ll) (by simp only [List.length_append, List.length_cons, List.length_nil]; omega)).mono ?_
                    rintro e w18 ⟨rfl, hst4⟩
                    go_wp2_with fail
                    go_roundw
                    case rel => exact ⟨i + 1, i + 1, _, by go_num, by go_num, Nat.le_refl _, by omega, hst4, HNX.out, HLN.out⟩
                    case measure => simp [intOf]; omega
                  · go_wp2_with fail
                    refine (stString hst (x.extract o i) (by omega)).mono ?_
                    rintro e w15 ⟨rfl, hst1⟩
                    rw [HXW.out] at hst1
                    go_wp2_with fail
                    refine (stByte hst1 37 (by omega)).mono ?_
                    rintro e w16 ⟨rfl, hst2⟩
                    go_wp2_with fail
                    refine (stByte hst2 (hexCap hh) (by simp only [List.length_append, List.length_cons, List.length_nil]; omega)).mono ?_
                    rintro e w17 ⟨rfl, hst3⟩
                    go_wp2_with fail
                    refine (stByte hst3 (hexCap ll) (by simp only [List.length_append, List.length_cons, List.length_nil]; omega)).mono ?_
                    rintro e w18 ⟨rfl, hst4⟩
                    go_wp2_with fail
                    go_roundw
                    case rel => exact ⟨i + 1, i + 1, _, by go_num, by go_num, Nat.le_refl _, by omega, hst4, HNX.out, HLN.out⟩
                    case measure => simp [intOf]; omega
                  · go_wp2_with fail
                    refine (stString hst (x.extract o i) (by omega)).mono ?_
                    rintro e w15 ⟨rfl, hst1⟩
                    rw [HXW.out] at hst1
                    go_wp2_with fail
                    refine (stByte hst1 37 (by omega)).mono ?_
                    rintro e w16 ⟨rfl, hst2⟩
                    go_wp2_with fail
                    refine (stByte hst2 (hexCap hh) (by simp only [List.length_append, List.length_cons, List.length_nil]; omega)).mono ?_
                    rintro e w17 ⟨rfl, hst3⟩
                    go_wp2_with fail
                    refine (stByte hst3 (hexCap ll) (by simp only [List.length_append, List.length_cons, List.length_nil]; omega)).mono ?_
                    rintro e w18 ⟨rfl, hst4⟩
                    go_wp2_with fail
                    go_roundw
                    case rel => exact ⟨i + 1, i + 1, _, by go_num, by go_num, Nat.le_refl _, by omega, hst4, HNX.out, HLN.out⟩
                    case measure => simp [intOf]; omega
                  · go_wp2_with fail
                    refine (stString hst (x.extract o i) (by omega)).mono ?_
                    rintro e w15 ⟨rfl, hst1⟩
                    rw [HXW.out] at hst1
                    go_wp2_with fail
                    refine (stByte hst1 37 (by omega)).mono ?_
                    rintro e w16 ⟨rfl, hst2⟩
                    go_wp2_with fail
                    refine (stByte hst2 (hexCap hh) (by simp only [List.length_append, List.length_cons, List.length_nil]; omega)).mono ?_
                    rintro e w17 ⟨rfl, hst3⟩
                    go_wp2_with fail
                    refine (stByte hst3 (hexCap ll) (by simp only [List.length_append, List.length_cons, List.length_nil]; omega)).mono ?_
                    rintro e w18 ⟨rfl, hst4⟩
                    go_wp2_with fail
                    go_roundw
                    case rel => exact ⟨i + 1, i + 1, _, by go_num, by go_num, Nat.le_refl _, by omega, hst4, HNX.out, HLN.out⟩
                    case measure => simp [intOf]; omega
                  · have HSP := Lib.hid hsp
                    clear hsp
                    go_wp2_with fail
                    refine (stMakes hst ((isTSpecial_c x[i] _).mono fun _ _ h => h.makes)).mono ?_
                    rintro e w14 ⟨rfl, hst⟩
                    rw [HSP.out]
                    go_wp2_with fail
                    refine (stString hst (x.extract o i) (by omega)).mono ?_
                    rintro e w15 ⟨rfl, hst1⟩
                    rw [HXW.out] at hst1
                    go_wp2_with fail
                    refine (stByte hst1 37 (by omega)).mono ?_
                    rintro e w16 ⟨rfl, hst2⟩
                    go_wp2_with fail
                    refine (stByte hst2 (hexCap hh) (by simp only [List.length_append, List.length_cons, List.length_nil]; omega)).mono ?_
                    rintro e w17 ⟨rfl, hst3⟩
                    go_wp2_with fail
                    refine (stByte hst3 (hexCap ll) (by simp only [List.length_append, List.length_cons, List.length_nil]; omega)).mono ?_
                    rintro e w18 ⟨rfl, hst4⟩
                    go_wp2_with fail
                    go_roundw
                    case rel => exact ⟨i + 1, i + 1, _, by go_num, by go_num, Nat.le_refl _, by omega, hst4, HNX.out, HLN.out⟩
                    case measure => simp [intOf]; omega
                · have HTK := Lib.hid hat
                  obtain ⟨h32, h127, h42, h39, h37, hsp⟩ := attr_yes x[i] hat
                  have HNX := Lib.hid (show ac ++ ((L x).drop o).take (i + 1 - o) = base ++ escA ((L x).take (i + 1)) by
                    rw [hPN, hTN, escA_snoc, escW, if_pos hat, ← List.append_assoc, HSG.out, List.append_assoc])
                  have HSP := Lib.hid hsp
                  clear hTN hPN hxl hat HTK hsp
                  go_wp2_with fail
                  refine (stMakes hst ((isTSpecial_c x[i] _).mono fun _ _ h => h.makes)).mono ?_
                  rintro e w14 ⟨rfl, hst1⟩
                  rw [HSP.out]
                  go_wp2_with fail
                  go_roundw
                  case rel => exact ⟨i + 1, o, ac, by go_num, rfl, by omega, by omega, hst1, HNX.out, by omega⟩
                  case measure => simp [intOf]; omega
              · have hie : i = x.size := by omega
                have HEnd := Lib.hid (show ac ++ L (x.extract o x.size) = base ++ escA (L x) by have h := HSG.out; have q1 : (L x).take x.size = L x := List.take_of_length_le (by rw [L_length]; exact Nat.le_refl _); rw [hie, q1] at h; rw [← h, extract_L])
                have hez : (x.extract o x.size).size ≤ x.size := by rw [← L_length, extract_L, List.length_take]; omega
                have hi1 : x.size ≤ i := by omega
                clear hie
                go_wp2_with fail
                refine (stString hst (x.extract o x.size) (by omega)).mono ?_
                rintro e w15 ⟨rfl, hst1⟩
                rw [HEnd.out] at hst1
                go_wp2_with fail
                go_roundw
                case rel => exact ⟨k + 1, base ++ escA (L x), by go_num, by omega, hst1, HE.out _ (by rw [HV.out, HB.out]; simp [L]), HL2.out HT.out, by have := escA_len (L x); rw [L_length] at this; rw [List.length_append]; omega⟩
                case measure => simp [intOf]; omega
          · have HPR := Lib.hid hp
            cases hxt : isTok (L x)
            · have HXT := Lib.hid hxt
              have HV := Lib.hid (show fmt1 (L a) (L x) = 59 :: 32 :: (L la ++ 61 :: (34 :: esc (L x) ++ [34])) by unfold fmt1 fmtV; rw [if_pos hp, if_neg (by rw [hxt]; decide), HLB.out]; rfl)
              clear hp hxt
              go_wp2_with fail
              refine (stByte hst 59 (by omega)).mono ?_
              rintro e w6 ⟨rfl, hst1⟩
              go_wp2_with fail
              refine (stByte hst1 32 (by simp; omega)).mono ?_
              rintro e w7 ⟨rfl, hst2⟩
              go_wp2_with fail
              refine (stMakes hst2 (isToken_c a _ (by omega))).mono ?_
              rintro e w8 ⟨rfl, hst3⟩
              rw [HT.out]
              go_wp2_with fail
              refine (stMakes hst3 (toLower_c a _ (by omega) HAS.out)).mono ?_
              rintro e w9 ⟨rfl, hst4⟩
              rw [HLA.out]
              go_wp2_with fail
              refine (stString hst4 la (by simp; omega)).mono ?_
              rintro e w10 ⟨rfl, hst5⟩
              go_wp2_with fail
              refine (stMakes hst5 (needsEncoding_c x _)).mono ?_
              rintro e w11 ⟨rfl, hst6⟩
              rw [HPR.out]
              go_wp2_with fail
              refine (stByte hst6 61 (by simp [L_length]; omega)).mono ?_
              rintro e w12 ⟨rfl, hst7⟩
              go_wp2_with fail
              refine (stMakes hst7 (isToken_c x _ (by omega))).mono ?_
              rintro e w13 ⟨rfl, hst8⟩
              rw [HXT.out]
              go_wp2_with fail
              refine (stByte hst8 34 (by simp [L_length]; omega)).mono ?_
              rintro e w14 ⟨rfl, hst9⟩
              obtain ⟨base, hbase⟩ : ∃ base, base = acc ++ [59] ++ [32] ++ L la ++ [61] ++ [34] := ⟨_, rfl⟩
              have hbl : base.length ≤ acc.length + 1048576 + 11 := by rw [hbase]; simp only [List.length_append, L_length, List.length_cons, List.length_nil]; omega
              rw [← hbase] at hst9
              have HB := Lib.hid hbase
              have HS9 := Lib.hid hst9
              clear hst hst1 hst2 hst3 hst4 hst5 hst6 hst7 hst8 hst9 hbase
              go_wp2_with fail
              go_loopw [16, 17] (fun ov iv wi => ∃ (i o : Nat) (ac : List UInt8), iv = .int .i64 i ∧ ov = .int .i64 o ∧ o ≤ i ∧ i ≤ x.size ∧ St w.heap.size w.heap.size ac w5 wi ∧ ac ++ ((L x).drop o).take (i - o) = base ++ esc ((L x).take i) ∧ ac.length ≤ base.length + 3 * i) (fun _ iv _ => x.size - (intOf iv).toNat)
              case atStart => exact ⟨0, 0, base, rfl, rfl, Nat.le_refl _, Nat.zero_le _, HS9.out, by simp [esc], by omega⟩
              case round =>
                obtain ⟨i, o, ac, rfl, rfl, hoi, hix, hst, hseg, hacl⟩ := hrel
                have HSG := Lib.hid hseg
                clear hseg
                by_cases hi : i < x.size
                · have hTN := take_next x i hi
                  have hPN := part_next x o i hoi hi
                  have SL : ∀ w, (Instr.slice 9 (.string x) (some (.int .i64 (o : Int))) (some (.int .i64 (i : Int))) none).run Tryd.prog w = .ok (.string (x.extract o i)) w := fun w => by
                    have := slice_eq x o (i - o) (by omega) w
                    rw [show (o : Int) + ((i - o : Nat) : Int) = (i : Int) by omega, show o + (i - o) = i by omega] at this
                    exact this
                  have hxl : L (x.extract o i) = ((L x).drop o).take (i - o) := extract_L x o i
                  have hxz : (x.extract o i).size ≤ i := by rw [← L_length, hxl, List.length_take]; omega
                  by_cases hq : x[i] = 92 ∨ x[i] = 34
                  · have HXW := Lib.hid (show ac ++ L (x.extract o i) = base ++ esc ((L x).take i) by rw [hxl]; exact HSG.out)
                    have hel : (esc ((L x).take i)).length ≤ 2 * i := by have := esc_len ((L x).take i); rw [List.length_take, L_length] at this; omega
                    have hel2 : (base ++ esc ((L x).take i)).length ≤ base.length + 2 * i := by rw [List.length_append]; omega
                    have HNX := Lib.hid (show base ++ esc ((L x).take i) ++ [92] ++ ((L x).drop i).take (i + 1 - i) = base ++ esc ((L x).take (i + 1)) by
                      have h := part_next x i i (Nat.le_refl _) hi
                      rw [h, hTN, esc_snoc, if_pos hq]; simp)
                    have HLN := Lib.hid (show (base ++ esc ((L x).take i) ++ [92]).length ≤ base.length + 3 * (i + 1) by simp only [List.length_append, List.length_cons, List.length_nil] at hel2 ⊢; omega)
                    have hcase : ((x[i].toNat : Int) == 34) = true ∨ (((x[i].toNat : Int) == 34) = false ∧ ((x[i].toNat : Int) == 92) = true) := by
                      by_cases h34 : x[i] = 34
                      · exact .inl (beq_yes _ 34 _ rfl h34)
                      · exact .inr ⟨beq_no _ 34 _ rfl h34, beq_yes _ 92 _ rfl (hq.resolve_right h34)⟩
                    clear hTN hPN hxl hel hq
                    rcases hcase with t34 | ⟨t34, t92⟩
                    all_goals
                      go_wp2_with fail
                      refine (stString hst (x.extract o i) (by omega)).mono ?_
                      rintro e w15 ⟨rfl, hst1⟩
                      rw [HXW.out] at hst1
                      go_wp2_with fail
                      refine (stByte hst1 92 (by omega)).mono ?_
                      rintro e w16 ⟨rfl, hst2⟩
                      go_wp2_with fail
                      go_roundw
                      case rel => exact ⟨i + 1, i, _, by go_num, rfl, by omega, by omega, hst2, HNX.out, HLN.out⟩
                      case measure => simp [intOf]; omega
                  · have HNX := Lib.hid (show ac ++ ((L x).drop o).take (i + 1 - o) = base ++ esc ((L x).take (i + 1)) by
                      rw [hPN, hTN, esc_snoc, if_neg hq, ← List.append_assoc, HSG.out, List.append_assoc])
                    have t34 : ((x[i].toNat : Int) == 34) = false := beq_no _ 34 _ rfl (fun e => hq (.inr e))
                    have t92 : ((x[i].toNat : Int) == 92) = false := beq_no _ 92 _ rfl (fun e => hq (.inl e))
                    clear hTN hPN hxl hq
                    go_wp2_with fail
                    go_roundw
                    case rel => exact ⟨i + 1, o, ac, by go_num, rfl, by omega, by omega, hst, HNX.out, by omega⟩
                    case measure => simp [intOf]; omega
                · have hie : i = x.size := by omega
                  have HEnd := Lib.hid (show ac ++ L (x.extract o x.size) = base ++ esc (L x) by have h := HSG.out; have q1 : (L x).take x.size = L x := List.take_of_length_le (by rw [L_length]; exact Nat.le_refl _); rw [hie, q1] at h; rw [← h, extract_L])
                  have hez : (x.extract o x.size).size ≤ x.size := by rw [← L_length, extract_L, List.length_take]; omega
                  have hi1 : x.size ≤ i := by omega
                  clear hie
                  go_wp2_with fail
                  refine (stString hst (x.extract o x.size) (by omega)).mono ?_
                  rintro e w15 ⟨rfl, hst1⟩
                  rw [HEnd.out] at hst1
                  have hel : (esc (L x)).length ≤ 2 * x.size := by have := esc_len (L x); rw [L_length] at this; exact this
                  go_wp2_with fail
                  refine (stByte hst1 34 (by rw [List.length_append]; omega)).mono ?_
                  rintro e w16 ⟨rfl, hst2⟩
                  go_wp2_with fail
                  go_roundw
                  case rel => exact ⟨k + 1, base ++ esc (L x) ++ [34], by go_num, by omega, hst2, HE.out _ (by rw [HV.out, HB.out]; simp), HL2.out HT.out, by rw [List.length_append, List.length_append, List.length_cons, List.length_nil]; omega⟩
                  case measure => simp [intOf]; omega
            · have HXT := Lib.hid hxt
              have HV := Lib.hid (show fmt1 (L a) (L x) = 59 :: 32 :: (L la ++ 61 :: L x) by unfold fmt1 fmtV; rw [if_pos hp, if_pos hxt, HLB.out])
              clear hp hxt
              go_wp2_with fail
              refine (stByte hst 59 (by omega)).mono ?_
              rintro e w6 ⟨rfl, hst1⟩
              go_wp2_with fail
              refine (stByte hst1 32 (by simp; omega)).mono ?_
              rintro e w7 ⟨rfl, hst2⟩
              go_wp2_with fail
              refine (stMakes hst2 (isToken_c a _ (by omega))).mono ?_
              rintro e w8 ⟨rfl, hst3⟩
              rw [HT.out]
              go_wp2_with fail
              refine (stMakes hst3 (toLower_c a _ (by omega) HAS.out)).mono ?_
              rintro e w9 ⟨rfl, hst4⟩
              rw [HLA.out]
              go_wp2_with fail
              refine (stString hst4 la (by simp; omega)).mono ?_
              rintro e w10 ⟨rfl, hst5⟩
              go_wp2_with fail
              refine (stMakes hst5 (needsEncoding_c x _)).mono ?_
              rintro e w11 ⟨rfl, hst6⟩
              rw [HPR.out]
              go_wp2_with fail
              refine (stByte hst6 61 (by simp [L_length]; omega)).mono ?_
              rintro e w12 ⟨rfl, hst7⟩
              go_wp2_with fail
              refine (stMakes hst7 (isToken_c x _ (by omega))).mono ?_
              rintro e w13 ⟨rfl, hst8⟩
              rw [HXT.out]
              go_wp2_with fail
              refine (stString hst8 x (by simp [L_length]; omega)).mono ?_
              rintro e w14 ⟨rfl, hst9⟩
              go_wp2_with fail
              go_roundw
              case rel => exact ⟨k + 1, _, by go_num, by omega, hst9, HE.out _ (by rw [HV.out]; simp), HL2.out HT.out, by simp only [List.length_append, L_length, List.length_cons, List.length_nil]; omega⟩
              case measure => simp [intOf]; omega
      · have hke : k = ks.length := by omega
        have HF := Lib.hid (show acc = fmtR (L t) D ks by have h1 := HL.out; have h2 := HA.out; rw [hke, List.take_length] at h1 h2; unfold fmtR; rw [if_pos h1]; exact h2)
        have hk1 : ks.length ≤ k := by omega
        clear hke
        go_wp2_with fail
        refine (string_c _ _ _ _ hst.bld).mono ?_
        rintro e w7 ⟨rfl, hb7⟩
        rw [HF.out]
        go_wp2_with fail
        go_ret
        exact ⟨⟨ss, HP.out, by rw [← HKS.out]; rfl⟩, (B5.out.trans hst.bel).trans hb7⟩
end Go.Proofs.YtglffpjobjpmpaaDoor
