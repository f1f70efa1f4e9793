/-
  THE STATEMENT 'Rows.FnTwiceCardSaid': for every input the law returns true, and each argument reads behind the call as it read before; the listed package-level variables hold what the program's text lays, as the given card ties them. The walk is in YteohjnebbndcoaaDoorTwice; here the row's frame round it, and the card.
-/
import Derived.Test.YteohjnebbndcoaaDoorCards
import Derived.Test.YteohjnebbndcoaaDoorTie
import Derived.Test.YteohjnebbndcoaaDoorTwice
import Derived.ProofKit
import Derived.OpenShut
import Derived.ShutString
import Derived.LaidMore
import Derived.Lay
import Derived.SevenTiedAt
import Derived.Stop.Joined
import Derived.Stop.LaidErr
import Derived.WalkSmall
import Derived.Lib.LaidTab
import Derived.LaidLaws
import Derived.Lib.LaidU8
import Derived.Test.YteohjnebbndcoaaDoorShelf
import Derived.OpenVars
namespace Go.Proofs.YteohjnebbndcoaaDoor.fnTwice
open Go.ChangeShapes Go.WideShapes Go.ChangeAt Go.RowKit
open Go.ChangeMaps (open_string shut_string)

theorem own : ownKnob Tryd.prog.godebug = none := by kernel_rfl
theorem laidOut : laidOutB Tryd.prog = true := by kernel_rfl
theorem white {W : World} (hL : laidMetH Tryd.prog Rows.fnTwiceRow.laid W) : Lib.WhiteTab 7 W := by
  rw [MakeChecks.laidMetH_plain _ _ _ (by kernel_rfl)] at hL
  have r1 : Lib.VarReads Tryd.prog W "unicode.White_Space" Rows.laid_unicode_White_Space := Lib.laidMet.reads hL (.tail _ (.tail _ (.tail _ (.tail _ (.head _)))))
  rw [show Rows.laid_unicode_White_Space = Lib.whiteData by kernel_rfl] at r1
  exact whiteTab_of_reads (ρ := Tryd.lays199_ren) Tryd.lays199 ⟨by kernel_rfl, by kernel_rfl, by kernel_rfl, by kernel_rfl, by kernel_rfl, by kernel_rfl, by kernel_rfl, by kernel_rfl⟩ r1
theorem ascTab {W : World} (hL : laidMetH Tryd.prog Rows.fnTwiceRow.laid W) : AscTab W := by
  rw [MakeChecks.laidMetH_plain _ _ _ (by kernel_rfl)] at hL
  have hL : laidMet Tryd.prog (("strings.asciiSpace", Lib.tabData .u8 Lib.asciiSpaceTab) :: Rows.fnTwiceRow.laid.drop 6) W := by
    have h := laidMet.tail (laidMet.tail (laidMet.tail (laidMet.tail (laidMet.tail hL))))
    rw [show (("strings.asciiSpace", Lib.tabData .u8 Lib.asciiSpaceTab) :: Rows.fnTwiceRow.laid.drop 6) = Rows.fnTwiceRow.laid.drop 5 by kernel_rfl]
    exact h
  exact Lib.tabIs_of_head (g := 2) (t := 72) (e := 5) (n := 256) (by kernel_rfl) (by kernel_rfl) Tryd.underlying72 Tryd.underlying5 (by kernel_rfl) (by kernel_rfl) hL

theorem gInv : Tryd.prog.globalNamed "loop.example/pub-mediatypes/pub/gomime.ErrInvalidMediaParameter" = some 0 := by kernel_rfl
theorem gDup : Tryd.prog.globalNamed "loop.example/pub-mediatypes/pub/gomime.errDuplicateParamName" = some 1 := by kernel_rfl
theorem gInvT : (Tryd.prog.globals[0]?).map (·.type) = some 41 := by kernel_rfl
theorem gDupT : (Tryd.prog.globals[1]?).map (·.type) = some 41 := by kernel_rfl
theorem star : "*" ++ "errors.errorString" = "*errors.errorString" := by decide
theorem rowPtr (u : TypeId) (h : Tryd.prog.typeName? 3 u = some "*errors.errorString") : u = 152 :=
  typeName_ptr_named (nm := "errors.errorString") (by rw [star]; kernel_rfl) (by kernel_rfl) (by decide) u (by rw [star]; exact h)
theorem cellsE : Tryd.prog.cellsOf 166 = 1 := by kernel_rfl
theorem cellsS : Tryd.prog.cellsOf 9 = 1 := by kernel_rfl
set_option maxRecDepth 100000 in
theorem errsAt {W : World} (hL : laidMetH Tryd.prog Rows.fnTwiceRow.laid W) : ∃ er, ErrsAt er W := by
  rw [MakeChecks.laidMetH_plain _ _ _ (by kernel_rfl)] at hL
  have h : laidMet Tryd.prog (("loop.example/pub-mediatypes/pub/gomime.ErrInvalidMediaParameter", Rows.laid_loop_example_pub_mediatypes_pub_gomime_ErrInvalidMediaParameter) :: ("loop.example/pub-mediatypes/pub/gomime.errDuplicateParamName", Rows.laid_loop_example_pub_mediatypes_pub_gomime_errDuplicateParamName) :: Rows.fnTwiceRow.laid.drop 12) W :=
    laidMet.tail (laidMet.tail (laidMet.tail (laidMet.tail (laidMet.tail (laidMet.tail (laidMet.tail (laidMet.tail (laidMet.tail (laidMet.tail hL)))))))))
  generalize Rows.fnTwiceRow.laid.drop 12 = rest at h
  obtain ⟨ps, ⟨g0, t0, cs0, f0, p0, q0, hg0, ht0, hv0, hd0, ⟨g1, t1, cs1, f1, p1, q1, hg1, ht1, hv1, hd1, hq1, e1⟩, e0⟩, hnd, hrows⟩ := h
  obtain rfl := Option.some.inj (gInv.symm.trans hg0)
  obtain rfl := Option.some.inj (gDup.symm.trans hg1)
  obtain rfl := Option.some.inj (gInvT.symm.trans ht0)
  obtain rfl := Option.some.inj (gDupT.symm.trans ht1)
  subst e1
  subst e0
  obtain ⟨l0⟩ := cs0
  obtain ⟨l1⟩ := cs1
  have ok0 : ∀ u v, l0 = [.iface u v] → Value.okWide Tryd.prog W .any 0 u v := fun u v e => by
    subst e
    exact (hrows 0 0 (by simp [MemPlace.row])).2 u v (by simpa using World.var?_cell hg0 hv0 0)
  have ok1 : ∀ u v, l1 = [.iface u v] → Value.okWide Tryd.prog W .any 0 u v := fun u v e => by
    subst e
    exact (hrows 1 0 (by simp [MemPlace.row])).2 u v (by simpa using World.var?_cell hg1 hv1 0)
  obtain ⟨a0, s0, rfl, hc0, hs0, hz0, rfl⟩ := errorString_of_trod Tryd.underlying41 rowPtr Tryd.underlying152 Tryd.underlying166 rfl rfl Tryd.underlying9 cellsE cellsS hd0 ok0
  obtain ⟨a1, s1, rfl, hc1, hs1, hz1, rfl⟩ := errorString_of_trod Tryd.underlying41 rowPtr Tryd.underlying152 Tryd.underlying166 rfl rfl Tryd.underlying9 cellsE cellsS hd1 ok1
  obtain ⟨c0, t0, hb0⟩ := (hrows a0.block a0.off (by simp [MemPlace.row])).1
  obtain ⟨c1, t1, hb1⟩ := (hrows a1.block a1.off (by simp [MemPlace.row])).1
  refine ⟨_, _, a0, a1, c0, c1, t0, t1, rfl, rfl, by simpa using World.var?_cell hg0 hv0 0, by simpa using World.var?_cell hg1 hv1 0, ?_, hb0, hb1⟩
  rintro rfl
  simp [MemPlace.row] at hnd

theorem six_of {H : Type} {enc : TypeId × Value → H} {P : Program} {W : World} {sp : Nat → Bool} {a b c d e f : String} {gs : List (DataW H)} {q : List MemPlace} (h : DataW.TrodVars enc P W sp [a, b, c, d, e, f] gs q) :
    ∃ y0 y1 y2 y3 y4 y5, gs = [y0, y1, y2, y3, y4, y5] := by
  rcases gs with _ | ⟨y0, _ | ⟨y1, _ | ⟨y2, _ | ⟨y3, _ | ⟨y4, _ | ⟨y5, _ | ⟨y6, r⟩⟩⟩⟩⟩⟩⟩
  all_goals first
    | exact ⟨y0, y1, y2, y3, y4, y5, rfl⟩
    | (exfalso
       repeat (obtain ⟨_, _, _, _, _, _, _, _, _, _, h, _⟩ := h))

set_option maxRecDepth 100000 in
theorem lifted (os : Os) (started : os.Started) (H : Type) (enc : TypeId × Value → H) :
    ReturnsInHanded {} Tryd.checked os 4 .any (fun w args => (Rows.fnTwiceSpec.pre enc Tryd.prog Tryd.f4 Rows.fnTwiceRow.domain false w args ∧ laidMetH Tryd.prog Rows.fnTwiceRow.laid w) ∧ sizedMet enc Tryd.prog Tryd.f4 (OpenSpec.ofChange Rows.fnTwiceSpec) false w args)
      (Rows.fnTwiceSpec.post enc Tryd.prog Tryd.f4 false true false false) := by
  refine returnsInHanded_of_change_and (C := Tryd.checked) (X := fun w _ => laidMetH Tryd.prog Rows.fnTwiceRow.laid w) (fun _ _ _ hh h => h.of_heap hh) own started (by kernel_rfl) Tryd.func4
    (ChangeSpec.witness_shaped (enc := enc) (C := Tryd.checked) (os := os) (X := fun w _ => laidMetH Tryd.prog Rows.fnTwiceRow.laid w) false (World.laidAll Tryd.prog os Rows.fnTwiceRow.laid) #[.string .empty, .string .empty, .string .empty, .string .empty] 8 (World.laidAll_os _ _ _)
      (World.shaped_of_ZipB (by kernel_rfl) (by kernel_rfl)) (by kernel_rfl) (by kernel_rfl) (by kernel_rfl)
      (by rw [MakeChecks.laidMetH_plain _ _ _ (by kernel_rfl)]; exact laidMet_laidAll _ (by kernel_rfl) (by kernel_rfl))) ?_
  intro W base args ds gs before hval0 hW _ _ hL _
  have hval : ∀ (j : Nat) t v, Tryd.f4.params[j]? = some t → args[j]? = some v → Value.okWide Tryd.prog W .any base t v := hval0
  have hW' := hW
  obtain ⟨p, q, hA0, hV, rfl, hfz, hnd⟩ := hW
  have hA : DataW.TrodAll enc Tryd.prog W 0 (fun _ => true) true Tryd.f4.params.toList args.toList ds p := hA0
  rw [Tryd.params4] at hA hval
  obtain ⟨v0, vs0, d0, ds0, p0, q0, hargs, rfl, rfl, h0, r0⟩ := trodAll_cons hA
  obtain ⟨v1, vs1, d1, ds1, p1, q1, rfl, rfl, rfl, h1, r1⟩ := trodAll_cons r0
  obtain ⟨v2, vs2, d2, ds2, p2, q2, rfl, rfl, rfl, h2, r2⟩ := trodAll_cons r1
  obtain ⟨v3, vs3, d3, ds3, p3, q3, rfl, rfl, rfl, h3, r3⟩ := trodAll_cons r2
  obtain ⟨rfl, rfl, rfl⟩ := trodAll_nil r3
  obtain rfl : args = #[v0, v1, v2, v3] := by cases args; simp_all
  have hVk := hV
  obtain ⟨y0, y1, y2, y3, y4, y5, rfl⟩ := six_of hV
  obtain ⟨er, hE⟩ := errsAt hL
  obtain ⟨s0, rfl, rfl, rfl, m0⟩ := open_string Tryd.underlying9 (hval 0 9 v0 rfl rfl) h0
  obtain ⟨s1, rfl, rfl, rfl, m1⟩ := open_string Tryd.underlying9 (hval 1 9 v1 rfl rfl) h1
  obtain ⟨s2, rfl, rfl, rfl, m2⟩ := open_string Tryd.underlying9 (hval 2 9 v2 rfl rfl) h2
  obtain ⟨s3, rfl, rfl, rfl, m3⟩ := open_string Tryd.underlying9 (hval 3 9 v3 rfl rfl) h3
  clear hA0 hval0
  refine (fnTwice_walk s0 s1 s2 s3 er W m0 m1 m2 m3 (white hL) (ascTab hL) hE).mono fun e W' ⟨he, bel⟩ => ?_
  subst he
  exact ⟨_, rfl, _, _, _, [], [], q, hW', trodAll_mk1 (shut_bool Tryd.underlying4 _), (trodAll_cons_mk (shut_string Tryd.underlying9 m0) (trodAll_cons_mk (shut_string Tryd.underlying9 m1) (trodAll_cons_mk (shut_string Tryd.underlying9 m2) (trodAll_cons_mk (shut_string Tryd.underlying9 m3) trodAll_mk0)))), Below.trodVars laidOut bel (by kernel_rfl) hVk, bel.frame _, fun h => by cases h⟩

theorem said : Rows.FnTwiceSaid :=
  OpenClaim.holds_of_wide 4 Tryd.f4 rfl rfl rfl rfl rfl rfl rfl ⟨rfl, rfl, rfl, rfl, rfl⟩ rfl rfl rfl rfl rfl (by kernel_rfl) Tryd.func4 (by kernel_rfl)
    (of_decide_eq_true (by kernel_rfl)) (by unfold Func.isWrapper; first | (rw [if_pos (by decide +kernel)]; kernel_rfl) | (rw [if_neg (by decide +kernel)]; exact ⟨rfl, rfl⟩))
    (fun os started H enc _ => lifted os started H enc)
/-- No parameter wants a stand-in; the program's own looks are off: what the card asks. -/
theorem plain (f : FuncId) (fn : Func) (hf : Tryd.pinned.checked.prog.funcNamed "loop.example/pub-mediatypes/laws.FnTwice" = some f) (hfn : Tryd.pinned.checked.prog.funcs[f]? = some fn) :
    true = Tryd.pinned.checked.prog.looks [] ∧ ∀ (j : Nat) t, fn.params[j]? = some t → Tryd.pinned.checked.prog.wantsStandIn t = false := by
  obtain rfl : f = 4 := Option.some.inj ((show Tryd.prog.funcNamed "loop.example/pub-mediatypes/laws.FnTwice" = some 4 by kernel_rfl).symm.trans hf) |>.symm
  obtain rfl : fn = Tryd.f4 := (Option.some.inj (Tryd.func4.symm.trans hfn)).symm
  refine ⟨by kernel_rfl, fun j t ht => ?_⟩
  rw [Tryd.params4] at ht
  have hm : t ∈ [9, 9, 9, 9] := by simpa using Array.mem_of_getElem? ht
  have hall : ([9, 9, 9, 9].all fun u => !Tryd.prog.wantsStandIn u) = true := by kernel_rfl
  exact (show Tryd.prog.wantsStandIn t = false by simpa using List.all_eq_true.1 hall t hm)
/-- THE CARD. -/
theorem proved : Rows.FnTwiceCardSaid :=
  Claim7.holds_tied_plain_at .later [] _ _ _ _ said (fun _ h => by cases h) (by kernel_rfl) (fun _ h => by cases h) fnTwice_row_tie rfl ⟨rfl, rfl⟩ (by kernel_rfl) rfl plain (by kernel_rfl)
end Go.Proofs.YteohjnebbndcoaaDoor.fnTwice
