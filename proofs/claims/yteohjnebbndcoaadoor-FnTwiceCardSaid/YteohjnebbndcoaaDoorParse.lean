/-
  CONTRACT OF mime's ParseMediaType AT A TYPE AND TWO PARAMETERS OF ONE NAME, each with a token for its value.
-/
import Derived.Test.YteohjnebbndcoaaDoorType
import Derived.Test.YteohjnebbndcoaaDoorCut
import Derived.Maps.Own
import Derived.Maps.OwnOps
import Derived.Maps.OwnSet
import Derived.Maps.StringElems
import Derived.Maps.Views
import Derived.Laws.IdiomRangeMap
namespace Go.Proofs.YteohjnebbndcoaaDoor
open Go.RowKit Go.WideMaps Go.Maps

theorem zeroStr (w : World) : (zeroValue 9).run Tryd.prog w = .ok (.string ⟨#[]⟩) w := by kernel_rfl
theorem keyLaw : Keyed Tryd.prog 9 := string_keyed Tryd.underlying9

/-- Block b is a map of texts, of at most n entries, that reads as D. -/
def MapIs (b n : Nat) (D : DataW Unit) (w : World) : Prop := w.ownsMap Tryd.prog 9 (plainElem Tryd.prog 9) b n D
theorem MapIs.below {b n : Nat} {D : DataW Unit} {w w' : World} (h : MapIs b n D w) (hb : Below w.heap.size w w') : MapIs b n D w' :=
  World.ownsMap.kept h (row := none) ⟨hb.os, hb.tape, hb.output, hb.size, fun k hk _ => hb.block k hk⟩ (by simp)
theorem MapIs.lookup {b n : Nat} {D : DataW Unit} {w : World} (h : MapIs b n D w) (s : ByteArray) (hs : s.size ≤ maxLen) :
    ∃ x : ByteArray, (Instr.lookup 39 (.map (some b)) (.string s) true).run Tryd.prog w = .ok (.tuple #[.string x, .bool (Maps.has D (.string s.data.toList))]) w ∧ D.atKey (.string s.data.toList) (.lit (.string [])) = .lit (.string x.data.toList) := by
  obtain ⟨v, ps, hrun, hv⟩ := World.ownsMap.look_ok h keyLaw Tryd.underlying39 (zeroStr w) (plainElem_string Tryd.underlying9 (by decide)) (keyOf_string_mk Tryd.underlying9 hs)
  obtain ⟨x, rfl, hx, _⟩ := plainElem_string_inv Tryd.underlying9 hv
  exact ⟨x, hrun, (Prod.mk.inj hx).1⟩

/-- The white space table of package strings. -/
def AscTab (w : World) : Prop := Lib.TabIs Tryd.prog w "strings.asciiSpace" .u8 Lib.asciiSpaceTab
theorem AscTab.below {w w' : World} (h : AscTab w) (hb : Below w.heap.size w w') : AscTab w' := by
  have hg : Tryd.prog.globalNamed "strings.asciiSpace" = some 2 := by kernel_rfl
  unfold AscTab Lib.TabIs World.var? at h ⊢
  rw [hg] at h ⊢
  simp only [Option.bind_some] at h ⊢
  have hlt : 2 < w.heap.size := by
    rcases Nat.lt_or_ge 2 w.heap.size with h' | h'
    · exact h'
    · rw [Array.getElem?_eq_none h'] at h; cases h
  rw [hb.block _ hlt]
  exact h
theorem trim_none (l : List UInt8) (h : ∀ c ∈ l, Lib.isSp c = false) : Lib.trimSpace l = l := by
  have key : ∀ l : List UInt8, (∀ c ∈ l, Lib.isSp c = false) → l.dropWhile Lib.isSp = l := by
    intro l h
    cases l with
    | nil => rfl
    | cons c r => rw [List.dropWhile_cons, h c List.mem_cons_self]; rfl
  unfold Lib.trimSpace
  rw [key l h, key l.reverse (fun c hc => h c (List.mem_reverse.1 hc)), List.reverse_reverse]
theorem trimSpace_c (s : ByteArray) (w : World) (hs : s.size ≤ 1099511627776) (ha : (L s).all asciiB = true) (hn : ∀ c ∈ L s, Lib.isSp c = false) (hT : AscTab w) : Calls Tryd.prog 25 #[.string s] w (Makes (.string s) w) := by
  have h := Tryd.strings_TrimSpace s w (by omega) (fun j b hj => asciiB_lt (List.all_eq_true.1 ha b (List.mem_of_getElem? hj))) hT
  have e : (⟨(Lib.trimSpace s.data.toList).toArray⟩ : ByteArray) = s := L_inj (by rw [L_mk]; exact trim_none (L s) hn)
  rw [e] at h
  refine h.mono ?_
  rintro e w' ⟨rfl, rfl⟩
  refine ⟨rfl, rfl, rfl, rfl, ?_, fun k hk => Lib.bytesWorld_at_old w _ s k hk⟩
  rw [Lib.bytesWorld_size]; omega

theorem low_tok : ∀ i : Fin 256, tokB (UInt8.ofNat i.val) = true → tokB (Lib.lowerB (UInt8.ofNat i.val)) = true ∧ (UInt8.ofNat i.val ≠ 42 → Lib.lowerB (UInt8.ofNat i.val) ≠ 42) := by decide +kernel
theorem lower_tokB (c : UInt8) (h : tokB c = true) : tokB (Lib.lowerB c) = true ∧ (c ≠ 42 → Lib.lowerB c ≠ 42) := by
  have := low_tok ⟨c.toNat, c.toNat_lt⟩
  simp only [UInt8.ofNat_toNat] at this
  exact this h
theorem allB_map (l : List UInt8) (h : ∀ c ∈ l, tokB c = true) : allB tokB (Lib.toLowerA l) = true := by
  induction l with
  | nil => rfl
  | cons c r ih =>
    unfold Lib.toLowerA at ih ⊢
    rw [List.map_cons, allB, if_pos (lower_tokB c (h c List.mem_cons_self)).1]
    exact ih (fun x hx => h x (List.mem_cons_of_mem _ hx))
theorem lower_isTok (l : List UInt8) (h : isTok l = true) : isTok (Lib.toLowerA l) = true := by
  obtain ⟨h0, h1⟩ := isTok_parts l h
  refine isTok_mk _ ?_ (allB_map l (allB_mem _ _ h1))
  intro e
  have := congrArg List.length e
  simp [Lib.toLowerA] at this
  exact h0 this
theorem lower_type (l : List UInt8) (h : TypeIs l) : TypeIs (Lib.toLowerA l) := by
  rcases h with h | ⟨a, b, rfl, ha, hb⟩
  · exact .inl (lower_isTok l h)
  · exact .inr ⟨_, _, by simp [Lib.toLowerA]; decide, lower_isTok a ha, lower_isTok b hb⟩
theorem type_mem (l : List UInt8) (h : TypeIs l) : ∀ c ∈ l, asciiB c = true ∧ Lib.isSp c = false ∧ c ≠ 59 := by
  have key : ∀ a : List UInt8, isTok a = true → ∀ c ∈ a, asciiB c = true ∧ Lib.isSp c = false ∧ c ≠ 59 := fun a ha c hc => by
    obtain ⟨h1, h2, _, h4, _⟩ := tok_facts c ((isTok_facts a ha).2.2 c hc)
    exact ⟨h1, h2, h4⟩
  rcases h with h | ⟨a, b, rfl, ha, hb⟩
  · exact key l h
  · intro c hc
    rcases List.mem_append.1 hc with hc | hc
    · exact key a ha c hc
    · rcases List.mem_cons.1 hc with rfl | hc
      · decide
      · exact key b hb c hc
theorem lower_twice : ∀ i : Fin 256, Lib.lowerB (Lib.lowerB (UInt8.ofNat i.val)) = Lib.lowerB (UInt8.ofNat i.val) := by decide +kernel
theorem toLower_twice (l : List UInt8) : Lib.toLowerA (Lib.toLowerA l) = Lib.toLowerA l := by
  have e : ∀ x : UInt8, Lib.lowerB (Lib.lowerB x) = Lib.lowerB x := fun x => by
    have := lower_twice ⟨x.toNat, x.toNat_lt⟩
    simpa only [UInt8.ofNat_toNat] using this
  unfold Lib.toLowerA
  induction l with
  | nil => rfl
  | cons c r ih => rw [List.map_cons, List.map_cons, e, ih]
theorem ix_none (c : UInt8) (l : List UInt8) (h : c ∉ l) : ixOf [c] l = none := by
  induction l with
  | nil => rfl
  | cons d r ih =>
    rw [ixOf_miss]
    · rw [ih (fun h' => h (List.mem_cons_of_mem _ h'))]; rfl
    · intro e
      simp at e
      exact h (by rw [e]; exact List.mem_cons_self)
theorem ixC (c : UInt8) (a b : List UInt8) (h : c ∉ a) : ixOf [c] (a ++ c :: b) = some a.length := by
  induction a with
  | nil => exact ixOf_hit _ _ rfl
  | cons d r ih =>
    rw [List.cons_append, ixOf_miss]
    · rw [ih (fun h' => h (List.mem_cons_of_mem _ h'))]; rfl
    · intro e
      simp at e
      exact h (by rw [e]; exact List.mem_cons_self)
theorem cutC (c : UInt8) (s a b sub : ByteArray) (hsub : L sub = [c]) (hs : L s = L a ++ c :: L b) (h : c ∉ L a) : cutOf s sub = .tuple #[.string a, .string b, .bool true] := by
  have hi : ixOf (L sub) (L s) = some (L a).length := by rw [hs, hsub]; exact ixC _ _ _ h
  have hz : sub.size = 1 := by rw [← L_length, hsub]; rfl
  have ha : s.extract 0 (L a).length = a := L_inj (by rw [L_to, hs]; simp)
  have hb : s.extract ((L a).length + 1) s.size = b := L_inj (by rw [L_from, hs]; simp)
  unfold cutOf
  rw [hi, hz]
  show Value.tuple #[.string (s.extract 0 (L a).length), .string (s.extract ((L a).length + 1) s.size), .bool true] = _
  rw [ha, hb]
theorem cutNone (c : UInt8) (s sub : ByteArray) (hsub : L sub = [c]) (h : c ∉ L s) : cutOf s sub = .tuple #[.string s, .string ⟨#[]⟩, .bool false] := by
  unfold cutOf
  rw [hsub, ix_none c _ h]

/-- One parameter '; name=value' with a token for its value, ahead of a rest that begins with no byte of a token. -/
theorem param_step (s name low value rest : ByteArray) (hs : L s = 59 :: 32 :: (L name ++ 61 :: (L value ++ L rest))) (hlow : L low = Lib.toLowerA (L name)) (hn : isTok (L name) = true) (hv : isTok (L value) = true) (hr : tokN (L rest) = 0) (hsz : s.size ≤ 1099511627776)
    (w : World) (hW : Lib.WhiteTab 7 w) : Calls Tryd.prog 23 #[.string s] w (Makes (.tuple #[.string low, .string value, .string rest]) w) := by
  obtain ⟨vr, hvr, hvrs⟩ := text_of (L value ++ L rest)
  obtain ⟨⟨c, r, hc, hct⟩, _, _⟩ := isTok_facts _ hv
  obtain ⟨f1, f2, f3, _, _⟩ := tok_facts c hct
  have hlen := congrArg List.length hs
  simp only [List.length_append, List.length_cons, L_length] at hlen
  simp only [List.length_append, L_length] at hvrs
  have hpos : 0 < value.size := by rw [← L_length, hc]; simp
  have e0 : (⟨(Lib.toLowerA (L name)).toArray⟩ : ByteArray) = low := L_inj (by rw [L_mk, hlow])
  have h := consumeMediaParam_c s name value rest vr [] [32] w (by rw [hs, hvr]; rfl) (by simp) (by intro b hb; simp at hb; rw [hb]; decide) hn ⟨c, r ++ L rest, by rw [hvr, hc]; rfl, f2, asciiB_lt f1⟩ (by omega) (fun w => ?_) hsz hW
  · rw [e0] at h; exact h
  · obtain ⟨h0, hh⟩ := head_of vr (c := c) (r := r ++ L rest) (by rw [hvr, hc]; rfl)
    have h := consumeValue_token vr w (by omega) h0 (by rw [hh]; exact f3)
    have hk : tokN (L vr) = value.size := by rw [hvr, tokN_append _ _ (isTok_parts _ hv).2 hr, L_length]
    have e2 : vr.extract 0 value.size = value := L_inj (by rw [L_to, hvr, ← L_length, List.take_left])
    have e3 : vr.extract value.size vr.size = rest := L_inj (by rw [L_from, hvr, ← L_length, List.drop_left])
    rw [tokPair, hk, e2, e3] at h
    exact h.mono fun _ _ hh => hh.makes

/-- What ParseMediaType hands back: the type and a map of one entry, or the error of a name with two values. -/
def ParseOut (same : Bool) (tl : ByteArray) (er : Value) (w : World) (e : Ending) (w' : World) : Prop :=
  Below w.heap.size w w' ∧ ((same = true ∧ ∃ b n D, e = .returned (.tuple #[.string tl, .map (some b), .nilIface]) ∧ MapIs b n D w' ∧ Maps.size D ≤ 1 ∧ w.heap.size ≤ b) ∨ (same = false ∧ e = .returned (.tuple #[.string ⟨#[]⟩, .map none, er])))

/-- Where the loop over the parameters stands. -/
def ParseRel (v0 v1 low v u : ByteArray) (w : World) (B : Nat) (s : Value) (wr : World) : Prop :=
  Below w.heap.size w wr ∧ ((s = .string v0 ∧ MapIs B 0 (.map []) wr) ∨ (s = .string v1 ∧ MapIs B 1 ((DataW.map []).put (.string low.data.toList) (.lit (.string v.data.toList))) wr) ∨
    (s = .string ⟨#[]⟩ ∧ (v.toList == u.toList) = true ∧ MapIs B 2 (((DataW.map []).put (.string low.data.toList) (.lit (.string v.data.toList))).put (.string low.data.toList) (.lit (.string u.data.toList))) wr))
def strSize (s : Value) : Nat := match s with | .string x => x.size | _ => 0

set_option maxHeartbeats 4000000 in
set_option maxRecDepth 100000 in
theorem parse_c (x t tl v0 v1 name low v u : ByteArray) (er : Value) (w : World) (hx : L x = L t ++ L v0) (hv0 : L v0 = 59 :: 32 :: (L name ++ 61 :: (L v ++ L v1))) (hv1 : L v1 = 59 :: 32 :: (L low ++ 61 :: L u)) (hlow : L low = Lib.toLowerA (L name)) (htl : L tl = Lib.toLowerA (L t))
    (ht : TypeIs (L t)) (hn : isTok (L name) = true) (hv : isTok (L v) = true) (hu : isTok (L u) = true) (h42 : (42 : UInt8) ∉ L name) (hxs : x.size ≤ 1099511627776)
    (hW : Lib.WhiteTab 7 w) (hA : AscTab w) (he : w.cell? ⟨1, 0, none⟩ = some er) (hg : 1 < w.heap.size) :
    Calls Tryd.prog 19 #[.string x] w (ParseOut (v.toList == u.toList) tl er w) := by
  have hmm := @run_makeMap Tryd.prog
  have l0 := congrArg List.length hx
  have l1 := congrArg List.length hv0
  have l2 := congrArg List.length hv1
  have l3 := congrArg List.length hlow
  have l4 := congrArg List.length htl
  simp only [List.length_append, List.length_cons, L_length, Lib.toLowerA, List.length_map] at l0 l1 l2 l3 l4
  obtain ⟨v00, hv00, _⟩ := text_of (32 :: (L name ++ 61 :: (L v ++ L v1)))
  have C0 := Lib.hid (cutC 59 x t v00 ⟨#[59]⟩ rfl (by rw [hx, hv0, hv00]) (fun h => (type_mem _ ht _ h).2.2 rfl))
  have TLo := Lib.hid (show ∀ w, Calls Tryd.prog 26 #[.string t] w (Makes (.string tl) w) from fun w => by
    have h := strLower_c t w (by omega) (List.all_eq_true.2 fun c hc => (type_mem _ ht c hc).1)
    have e : (⟨(Lib.toLowerA (L t)).toArray⟩ : ByteArray) = tl := L_inj (by rw [L_mk, htl])
    rw [e] at h
    exact h)
  have htl' : TypeIs (L tl) := by rw [htl]; exact lower_type _ ht
  have TS := Lib.hid fun (w : World) (h : AscTab w) => trimSpace_c tl w (by omega) (List.all_eq_true.2 fun c hc => (type_mem _ htl' c hc).1) (fun c hc => (type_mem _ htl' c hc).2.1) h
  have CD := Lib.hid fun w => checkDisp_c tl w (by omega) htl'
  have hlt : isTok (L low) = true := by rw [hlow]; exact lower_isTok _ hn
  have P0 := Lib.hid (param_step v0 name low v v1 hv0 hlow hn hv (by rw [hv1, tokN, if_neg (by decide)]) (by omega))
  have P1 := Lib.hid (param_step v1 low low u ⟨#[]⟩ (by rw [hv1]; show _ = 59 :: 32 :: (L low ++ 61 :: (L u ++ [])); simp) (by rw [hlow, toLower_twice]) hlt hu rfl (by omega))
  have T0 := Lib.hid fun w hW => trimLeft_c v0 v0 [] _ 59 w hv0 hv0 (by simp) (by decide) (by decide) hW
  have T1 := Lib.hid fun w hW => trimLeft_c v1 v1 [] _ 59 w hv1 hv1 (by simp) (by decide) (by decide) hW
  have h42' : (42 : UInt8) ∉ L low := by
    rw [hlow]
    unfold Lib.toLowerA
    rw [List.mem_map]
    rintro ⟨c, hc, hc2⟩
    exact (lower_tokB c ((isTok_facts _ hn).2.2 c hc)).2 (fun e => h42 (e ▸ hc)) hc2
  have C2 := Lib.hid (cutNone 42 low ⟨#[42]⟩ rfl h42')
  have hls : 0 < low.size := by obtain ⟨⟨c, r, hc, _⟩, _, _⟩ := isTok_facts _ hlt; rw [← L_length, hc]; simp
  have hlemp := not_empty low hls
  have hext : x.extract t.size x.size = v0 := L_inj (by rw [L_from, hx, ← L_length, List.drop_left])
  have z0 : ((v0.size : Int) == 0) = false := by rw [beq_eq_false_iff_ne]; omega
  have z1 : ((v1.size : Int) == 0) = false := by rw [beq_eq_false_iff_ne]; omega
  have HX := Lib.hid hext
  have hsl : ∀ w, (Instr.slice 9 (.string x) (some (.int .i64 (t.size : Int))) none none).run Tryd.prog w = .ok (.string v0) w := fun w => by
    rw [run_slice_string_from_if w 9 x .i64 (t.size : Int) Tryd.underlying9, if_pos (by omega), Int.toNat_natCast, HX.out]
  have HW := Lib.hid hW
  have HA := Lib.hid hA
  have N1 : Hid ((⟨#[59]⟩ : ByteArray).size ≤ 1099511627776 ∧ (⟨#[42]⟩ : ByteArray).size ≤ 1099511627776) := Lib.hid (by decide)
  have hkm : low.size ≤ maxLen := by unfold maxLen; omega
  have hvm : v.size ≤ maxLen := by unfold maxLen; omega
  have hum : u.size ≤ maxLen := by unfold maxLen; omega
  have HM := Lib.hid (And.intro hkm (And.intro hvm hum))
  have HER := Lib.hid he
  clear hx hv0 hv1 hlow htl ht hn hv hu h42 hW hA he hv00 htl' hlt h42' hext l3 l4 hkm hvm hum
  go_enter Tryd.func19, Tryd.ntmps19
  go_wp2_with fail
  refine (zzCut_c x _ _ hxs N1.out.1).mono ?_
  rintro e w1 ⟨rfl, n1, rfl⟩
  rw [C0.out]
  have b1 := below_drewN (Below.refl w.heap.size w) n1
  go_wp2_with fail
  refine (TLo.out _).mono ?_
  rintro e w2 ⟨rfl, hb2⟩
  have b2 := b1.trans (hb2.mono b1.size)
  go_wp2_with fail
  refine (TS.out _ (HA.out.below b2)).mono ?_
  rintro e w3 ⟨rfl, hb3⟩
  have b3 := b2.trans (hb3.mono b2.size)
  go_wp2_with fail
  refine (CD.out _).mono ?_
  rintro e w4 ⟨rfl, n4, rfl⟩
  have b4 := below_drewN b3 n4
  go_wp2_with fail
  have hB0 : MapIs w3.heap.size 0 (.map []) ((w3.drewN n4).alloc (.map #[] 0)) := World.ownsMap_made (w3.drewN n4) _ _ _
  have b5 := b4.alloc b4.size (.map #[] 0)
  have hbz : w.heap.size ≤ w3.heap.size := b3.size
  go_loopw [0, 2, 3, 4, 8] (fun s a b c d wr => (a = .string tl ∧ b = .map (some w3.heap.size) ∧ c = .nilIface ∧ d = .map none) ∧ ParseRel v0 v1 low v u w w3.heap.size s wr) (fun s _ _ _ _ _ => strSize s)
  case atStart => exact ⟨⟨rfl, rfl, rfl, rfl⟩, b5, .inl ⟨rfl, hB0⟩⟩
  case round =>
    obtain ⟨⟨rfl, rfl, rfl, rfl⟩, hbel, ⟨rfl, hmap⟩ | ⟨rfl, hmap⟩ | ⟨rfl, hsame, hmap⟩⟩ := hrel
    · clear hB0 b5 b4 b3 b2 b1 hb2 hb3 hsl hmm
      go_wp2_with fail
      refine (T0.out _ (WhiteTab_below HW.out hbel)).mono ?_
      rintro e x1 ⟨rfl, hx1⟩
      have c1 := hbel.trans (hx1.mono hbel.size)
      go_wp2_with fail
      refine (P0.out _ (WhiteTab_below HW.out c1)).mono ?_
      rintro e x2 ⟨rfl, hx2⟩
      have c2 := c1.trans (hx2.mono c1.size)
      go_wp2_with fail
      refine (zzCut_c low _ _ (by omega) N1.out.2).mono ?_
      rintro e x3 ⟨rfl, n, rfl⟩
      rw [C2.out]
      have c3 := below_drewN c2 n
      have m3 : MapIs w3.heap.size 0 (.map []) (x2.drewN n) := (hmap.below hx1).below (below_drewN hx2 n)
      obtain ⟨z, hrun, _⟩ := m3.lookup low HM.out.1
      rw [show Maps.has (.map [] : DataW Unit) (.string low.data.toList) = false from rfl] at hrun
      have m3z : w3.heap.size < (x2.drewN n).heap.size := World.ownsMap.lt m3
      go_wp2_with (at_mapUpdate; refine wpList_mapUpdate_own _ rfl _ _ _ 39 rfl 9 9 keyLaw Tryd.underlying39 _ w3.heap.size 0 _ rfl m3 (by decide) _ _ _ rfl rfl (keyOf_string_mk Tryd.underlying9 HM.out.1) _ [] (plainElem_string Tryd.underlying9 HM.out.2.1) ?_; intro x4 hown4 hgrow4)
      go_roundw
      case rel => exact ⟨⟨rfl, rfl, rfl, rfl⟩, c3.grown hgrow4 c3.size (fun j hj => by cases hj; exact hbz), .inr (.inl ⟨rfl, hown4⟩)⟩
      case measure => simp [strSize]; omega
    · clear hB0 b5 b4 b3 b2 b1 hb2 hb3 hsl hmm
      have hkl : WideAt.IsKeyLit (.string low.data.toList) := trivial
      cases hsame : (v.toList == u.toList)
      · have HSm := Lib.hid hsame
        have hne : (!v.toList == u.toList) = true := by rw [hsame]; rfl
        clear hsame
        go_wp2_with fail
        refine (T1.out _ (WhiteTab_below HW.out hbel)).mono ?_
        rintro e x1 ⟨rfl, hx1⟩
        have c1 := hbel.trans (hx1.mono hbel.size)
        go_wp2_with fail
        refine (P1.out _ (WhiteTab_below HW.out c1)).mono ?_
        rintro e x2 ⟨rfl, hx2⟩
        have c2 := c1.trans (hx2.mono c1.size)
        go_wp2_with fail
        refine (zzCut_c low _ _ (by omega) N1.out.2).mono ?_
        rintro e x3 ⟨rfl, n, rfl⟩
        rw [C2.out]
        have c3 := below_drewN c2 n
        have m3 : MapIs w3.heap.size 1 _ (x2.drewN n) := (hmap.below hx1).below (below_drewN hx2 n)
        obtain ⟨z, hrun, hz⟩ := m3.lookup low HM.out.1
        rw [Maps.has_put_same Maps.isMap_empty hkl] at hrun
        rw [Maps.atKey_put_same Maps.isMap_empty hkl] at hz
        have hz2 : v.data.toList = z.data.toList := by simpa using hz
        obtain rfl : v = z := L_inj hz2
        have hce := (c2.cell (p := ⟨1, 0, none⟩) hg).trans HER.out
        clear hz hz2 hmap m3
        go_wp2_with fail
        go_quiet (fail)
        go_wp2
        go_ret3
        exact ⟨below_drewN c3 _, .inr ⟨rfl, rfl⟩⟩
      · have HSm := Lib.hid hsame
        have hne : (!v.toList == u.toList) = false := by rw [hsame]; rfl
        clear hsame
        go_wp2_with fail
        refine (T1.out _ (WhiteTab_below HW.out hbel)).mono ?_
        rintro e x1 ⟨rfl, hx1⟩
        have c1 := hbel.trans (hx1.mono hbel.size)
        go_wp2_with fail
        refine (P1.out _ (WhiteTab_below HW.out c1)).mono ?_
        rintro e x2 ⟨rfl, hx2⟩
        have c2 := c1.trans (hx2.mono c1.size)
        go_wp2_with fail
        refine (zzCut_c low _ _ (by omega) N1.out.2).mono ?_
        rintro e x3 ⟨rfl, n, rfl⟩
        rw [C2.out]
        have c3 := below_drewN c2 n
        have m3 : MapIs w3.heap.size 1 _ (x2.drewN n) := (hmap.below hx1).below (below_drewN hx2 n)
        obtain ⟨z, hrun, hz⟩ := m3.lookup low HM.out.1
        rw [Maps.has_put_same Maps.isMap_empty hkl] at hrun
        rw [Maps.atKey_put_same Maps.isMap_empty hkl] at hz
        have hz2 : v.data.toList = z.data.toList := by simpa using hz
        obtain rfl : v = z := L_inj hz2
        clear hz hz2 hmap
        go_wp2_with (at_mapUpdate; refine wpList_mapUpdate_own _ rfl _ _ _ 39 rfl 9 9 keyLaw Tryd.underlying39 _ w3.heap.size 1 _ rfl m3 (by decide) _ _ _ rfl rfl (keyOf_string_mk Tryd.underlying9 HM.out.1) _ [] (plainElem_string Tryd.underlying9 HM.out.2.2) ?_; intro x4 hown4 hgrow4)
        go_roundw
        case rel => exact ⟨⟨rfl, rfl, rfl, rfl⟩, c3.grown hgrow4 c3.size (fun j hj => by cases hj; exact hbz), .inr (.inr ⟨rfl, HSm.out, hown4⟩)⟩
        case measure => show (0 : Nat) < v1.size; omega
    · clear hB0 b5 b4 b3 b2 b1 hb2 hb3 hsl hmm
      have HSm := Lib.hid hsame
      have hrn : ∀ w : World, (Instr.range 52 (.map none)).run Tryd.prog w = _ := fun w => run_range_nilMap w 52 _ _ Tryd.underlying52
      have hnx : ∀ ty : TypeId, (Instr.next (.pointer (some ⟨wr.heap.size + 1, 0, none⟩)) false ty).run Tryd.prog ((wr.alloc (.cells #[.pointer none, .slice none 0 0] 59)).alloc (.mapIter none 0 #[] 0)) = .ok (.tuple #[.bool false]) ((wr.alloc (.cells #[.pointer none, .slice none 0 0] 59)).alloc (.mapIter none 0 #[] 0)) := fun ty => by
        have h := run_next_nilMap (P := Tryd.prog) (wr.alloc (.cells #[.pointer none, .slice none 0 0] 59)) ty 0 0 #[]
        rw [World.size_alloc] at h
        exact h
      have b8 : Below w.heap.size w ((wr.alloc (.cells #[.pointer none, .slice none 0 0] 59)).alloc (.mapIter none 0 #[] 0)) := (hbel.alloc hbel.size _).alloc (by have := hbel.size; simp; omega) _
      have m8 := (World.ownsMap.alloc (World.ownsMap.alloc hmap (.cells #[.pointer none, .slice none 0 0] 59)) (.mapIter none 0 #[] 0))
      have hsz1 : Maps.size (((DataW.map []).put (.string low.data.toList) (.lit (.string v.data.toList))).put (.string low.data.toList) (.lit (.string u.data.toList)) : DataW Unit) ≤ 1 := by
        have hkl : WideAt.IsKeyLit (.string low.data.toList) := trivial
        have t1 : Maps.Tidy ((DataW.map [] : DataW Unit).put (.string low.data.toList) (.lit (.string v.data.toList))) := Maps.Tidy.put Maps.tidy_empty hkl _
        rw [Maps.size_put t1, if_pos (Maps.has_put_same Maps.isMap_empty hkl _), Maps.size_put Maps.tidy_empty, if_neg (by show ¬ (false = true); decide)]
        exact Nat.le_refl _
      have HM8 := Lib.hid m8
      clear hsame hmap m8
      go_wp2_with fail
      refine wp_loop_rounds 1 ?_
      rw [rounds_succ]
      go_wp2
      go_ret3
      exact ⟨b8, .inl ⟨HSm.out, _, _, _, rfl, HM8.out, hsz1, hbz⟩⟩
end Go.Proofs.YteohjnebbndcoaaDoor
