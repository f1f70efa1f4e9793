/-
  THE STATEMENT 'Rows.FnExactFormatUptoCardSaid': for every input of bulk at most 1048576 the law returns true, and each argument reads behind the call as it read before; the listed package-level variables hold what the program's text lays, as the given card ties them. The walk is in YtglffpjobjpmpaaDoorForm; here the row's frame round it, and the card.
-/
import Derived.Test.YtglffpjobjpmpaaDoorCards
import Derived.Test.YtglffpjobjpmpaaDoorTie
import Derived.Test.YtglffpjobjpmpaaDoorForm
import Derived.Test.YtglffpjobjpmpaaDoorPrOpen
import Derived.ProofKit
import Derived.OpenShut
import Derived.ShutString
import Derived.LaidMore
import Derived.Lay
import Derived.SevenTiedAt
import Derived.Stop.Joined
import Derived.Stop.LaidErr
import Derived.WalkSmall
import Derived.Deep.DeepHandedRow
namespace Go.Proofs.YtglffpjobjpmpaaDoor.fnExactFormat
open Go.ChangeShapes Go.WideShapes Go.ChangeAt Go.RowKit
open Go.ChangeMaps (open_string shut_string)

theorem own : ownKnob Tryd.prog.godebug = none := by kernel_rfl
theorem laidOut : laidOutB Tryd.prog = true := by kernel_rfl
/-- 'THERE IS AN INPUT THAT FITS', at a world that is shown of the right shape. -/
theorem witness_row_shaped {H : Type} {enc : TypeId × Value → H} {C : Checked} {os : Os} {f : FuncId} {fn : Func} {s : OpenSpec} {conds : List PathCond} {apart : Bool} {laid : List (String × DataW Unit)} (modest : Bool) (w0 : World) (args : Array Value) (hos : w0.os = os)
    (hsh : (w0.forCall (fun _ _ => 0) ⟨#[], args, []⟩).Shaped C.prog) (hok : Input.okWideB C.prog (w0.forCall (fun _ _ => 0) ⟨#[], args, []⟩) f ⟨#[], args, []⟩ = true)
    (hrow : s.preRow enc C.prog fn conds apart laid (w0.forCall (fun _ _ => 0) ⟨#[], args, []⟩).memory args) :
    ∃ (w : World) (tape : Tape) (i : Input), w.os = os ∧ (w.forCall tape i).Shaped C.prog ∧ i.vars = [] ∧ Input.okWide C.prog (w.forCall tape i) .any w.heap.size f i ∧
      s.preRow enc C.prog fn conds apart laid (w.forCall tape i).memory i.args ∧ ({ modest := modest } : Assume).holds C.prog (lone (Frame.enter C.prog f i.args .normal) [] (w.forCall tape i)) :=
  ⟨w0, fun _ _ => 0, ⟨#[], args, []⟩, hos, hsh, (Input.okWide_of_okWideB (base := 0) hok).1, (Input.okWide_of_okWideB hok).2, hrow, by
    simp only [Assume.holds]
    exact ⟨by simp, by simp, fun _ => Modest.zero, by simp, by simp⟩⟩

theorem bound {H : Type} {l : List (DataW H)} (hk : Rows.uptoSmall H l = true) : Rows.uptoBulkAll l ≤ 1048576 := of_decide_eq_true hk

set_option maxRecDepth 100000 in
theorem lifted (os : Os) (started : os.Started) (H : Type) (enc : TypeId × Value → H) (F : Stop.Interp) :
    ReturnsInHanded {} Tryd.checked os 5 .any ((Rows.OpenSpec.upto Rows.fnExactFormatSpec).preRow enc Tryd.prog Tryd.f5 Rows.fnExactFormatUptoRow.domain false Rows.fnExactFormatUptoRow.laid)
      (((Rows.OpenSpec.upto Rows.fnExactFormatSpec).at F).post enc Tryd.prog Tryd.f5 false true false false) := by
  have hL0 : laidMetH Tryd.prog Rows.fnExactFormatUptoRow.laid ((World.laidAll Tryd.prog os Rows.fnExactFormatUptoRow.laid).forCall (fun _ _ => 0) ⟨#[], #[.string .empty, .slice none 0 0], []⟩).memory := by
    rw [MakeChecks.laidMetH_plain _ _ _ (by kernel_rfl)]; exact laidMet_laidAll _ (by kernel_rfl) (by kernel_rfl)
  have hsome : (DataW.whole enc Tryd.prog ((World.laidAll Tryd.prog os Rows.fnExactFormatUptoRow.laid).forCall (fun _ _ => 0) ⟨#[], #[.string .empty, .slice none 0 0], []⟩).memory Tryd.f5.params.toList Rows.fnExactFormatSpec.vars false (#[Value.string .empty, Value.slice none 0 0] : Array Value).toList 8).isSome = true := by kernel_rfl
  refine returnsInHanded_of_row (C := Tryd.checked) (s := Rows.OpenSpec.upto Rows.fnExactFormatSpec) own started (by kernel_rfl) Tryd.func5
    (witness_row_shaped (enc := enc) (C := Tryd.checked) false (World.laidAll Tryd.prog os Rows.fnExactFormatUptoRow.laid) #[.string .empty, .slice none 0 0] (World.laidAll_os _ _ _)
      (World.shaped_of_ZipB (by kernel_rfl) (by kernel_rfl)) (by kernel_rfl)
      (OpenSpec.preRow_of_cond 8 (Option.some_get hsome).symm (by kernel_rfl) (fun k hk => by cases hk; kernel_rfl) (by kernel_rfl) hL0)) ?_
  intro W base args ds gs before hval0 hW _ hcond _ hL _ _
  have hbk := bound (hcond _ rfl)
  have hval : ∀ (j : Nat) t v, Tryd.f5.params[j]? = some t → args[j]? = some v → Value.okWide Tryd.prog W .any base t v := hval0
  have hW' := hW
  obtain ⟨p, q, hA0, hV, rfl, hfz, hnd⟩ := hW
  have hA : DataW.TrodAll enc Tryd.prog W 0 (fun _ => true) true Tryd.f5.params.toList args.toList ds p := hA0
  rw [Tryd.params5] at hA hval
  obtain ⟨v0, vs0, d0, ds0, p0, q0, hargs, rfl, rfl, h0, r0⟩ := trodAll_cons hA
  obtain ⟨v1, vs1, d1, ds1, p1, q1, rfl, rfl, rfl, h1, r1⟩ := trodAll_cons r0
  obtain ⟨rfl, rfl, rfl⟩ := trodAll_nil r1
  obtain rfl : args = #[v0, v1] := by cases args; simp_all
  obtain ⟨rfl, rfl⟩ := trodVars_none hV
  obtain ⟨s0, rfl, rfl, rfl, m0⟩ := open_string Tryd.underlying9 (hval 0 9 v0 rfl rfl) h0
  have k1 := h1
  have lt1 : ∀ x ∈ p1, x.block < W.heap.size := fun x hx => hW'.lt x (by simp [hx])
  obtain ⟨l1, pr1, m1⟩ := open_pairs (hval 1 28 v1 rfl rfl) h1
  have b0 : s0.size + ((l1.map fun x => x.n.size + x.v.size).sum + l1.length) ≤ 1048576 := by
    simp only [List.append_nil, Rows.uptoBulkAll, Rows.uptoBulk, Array.length_toList] at hbk
    have e : s0.data.size = s0.size := rfl
    omega
  have each : ∀ p ∈ l1, p.n.size ≤ 1048576 ∧ p.v.size ≤ 1048576 := fun p hp => by
    have := pair_mem l1 p hp
    omega
  clear hA0 hval0
  refine (fnExactFormat_walk s0 v1 l1 W (by omega) pr1 (by omega) each).mono fun e W' ⟨he, bel⟩ => ?_
  subst he
  exact ⟨_, rfl, _, _, _, [], _, [], hW', trodAll_mk1 (shut_bool Tryd.underlying4 _), (trodAll_cons_mk (shut_string Tryd.underlying9 m0) (trodAll_cons_mk (Below.trod laidOut (by kernel_rfl) (of_decide_eq_true (by kernel_rfl)) k1 bel lt1) trodAll_mk0)), rfl, bel.frame _, fun h => by cases h⟩

theorem said : Rows.FnExactFormatUptoSaid :=
  OpenClaim.holds_of_cond 5 Tryd.f5 rfl rfl rfl rfl rfl rfl rfl ⟨rfl, rfl, rfl, rfl, rfl⟩ rfl rfl rfl rfl rfl (by kernel_rfl) Tryd.func5 (by kernel_rfl)
    (of_decide_eq_true (by kernel_rfl)) (by unfold Func.isWrapper; first | (rw [if_pos (by decide +kernel)]; kernel_rfl) | (rw [if_neg (by decide +kernel)]; exact ⟨rfl, rfl⟩))
    (fun os started H enc _ F => by rw [OpenClaim.pre_eq_preRow]; exact lifted os started H enc F)
/-- No parameter wants a stand-in; the program's own looks are off: what the card asks. -/
theorem plain (f : FuncId) (fn : Func) (hf : Tryd.pinned.checked.prog.funcNamed "loop.example/pub-mediatypes/laws.FnExactFormat" = some f) (hfn : Tryd.pinned.checked.prog.funcs[f]? = some fn) :
    false = Tryd.pinned.checked.prog.looks [] ∧ ∀ (j : Nat) t, fn.params[j]? = some t → Tryd.pinned.checked.prog.wantsStandIn t = false := by
  obtain rfl : f = 5 := Option.some.inj ((show Tryd.prog.funcNamed "loop.example/pub-mediatypes/laws.FnExactFormat" = some 5 by kernel_rfl).symm.trans hf) |>.symm
  obtain rfl : fn = Tryd.f5 := (Option.some.inj (Tryd.func5.symm.trans hfn)).symm
  refine ⟨by kernel_rfl, fun j t ht => ?_⟩
  rw [Tryd.params5] at ht
  have hm : t ∈ [9, 28] := by simpa using Array.mem_of_getElem? ht
  have hall : ([9, 28].all fun u => !Tryd.prog.wantsStandIn u) = true := by kernel_rfl
  exact (show Tryd.prog.wantsStandIn t = false by simpa using List.all_eq_true.1 hall t hm)
/-- THE CARD. -/
theorem proved : Rows.FnExactFormatUptoCardSaid :=
  Claim7.holds_tied_plain_at .later [] _ _ _ _ said (fun _ h => by cases h) (by kernel_rfl) (fun _ h => by cases h) fnExactFormatUpto_row_tie rfl ⟨rfl, rfl⟩ (by kernel_rfl) rfl plain (by kernel_rfl)
end Go.Proofs.YtglffpjobjpmpaaDoor.fnExactFormat
