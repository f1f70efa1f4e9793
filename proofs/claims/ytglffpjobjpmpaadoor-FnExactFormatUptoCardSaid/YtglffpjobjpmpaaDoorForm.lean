/-
  THE WALK OF FnExactFormat: the text of a type and parameters is this type, and each parameter by ascending names; for arguments of bulk at most 1048576.
-/
import Derived.Test.YtglffpjobjpmpaaDoorFmtLaw
namespace Go.Proofs.YtglffpjobjpmpaaDoor
open Go.RowKit Go.WideMaps Go.Maps Go.Sort

set_option maxHeartbeats 2000000 in
set_option maxRecDepth 100000 in
theorem fnExactFormat_walk (t : ByteArray) (v : Value) (l : List Pr) (w : World) (ht : t.size ≤ 1048576) (hv : Prs v l w) (hl : l.length ≤ 1048576) (hs : ∀ p ∈ l, p.n.size ≤ 1048576 ∧ p.v.size ≤ 1048576) : Calls Tryd.prog 5 #[.string t, v] w (Makes (.bool true) w) := by
  have HV := Lib.hid hv
  have HS := Lib.hid hs
  have HNm := Lib.hid (fun w (hv : Prs v l w) => names_c v l w hv hl hs)
  have d0 : decide ((2147483647 : Int) < (t.size : Int)) = false := decide_eq_false (by omega)
  have d1 : decide ((16777216 : Int) < (t.size : Int)) = false := decide_eq_false (by omega)
  have HF2 := Lib.hid (show ∀ w, Prs v l w → Calls Tryd.prog 10 #[v] w (Makes (.bool true) w) from fun w hv => zzFits2_c v l w hv (by omega) fun x hx => ⟨Nat.le_trans (hs x hx).1 (by omega), Nat.le_trans (hs x hx).2 (by omega)⟩)
  by_cases hty : TypeIs (L t)
  · have HTY := Lib.hid (show ∀ w, Calls Tryd.prog 11 #[.string t] w (Pure (.bool true) w) from fun w => type_yes t w (by omega) hty)
    obtain ⟨R, hR, _⟩ := text_of (Lib.toLowerA (L t) ++ fmtP (sortP l))
    have HR := Lib.hid (show (⟨(Lib.toLowerA (L t) ++ fmtP (sortP l)).toArray⟩ : ByteArray) = R from L_inj (by rw [L_mk, hR]))
    have H1 := Lib.hid (fun w (hv : Prs v l w) (hok : NamesOk l) => format_yes t v l w (Lib.toLowerA (L t) ++ fmtP (sortP l)) ht hv hl hs hty fun b n w' hm => format_law (L t) hm hok)
    have H2 := Lib.hid (fun w (hv : Prs v l w) => specFormat_c t v l w R ht hv hl hs hR)
    obtain ⟨p, c, rfl, _⟩ := hv
    clear hs hty hR
    go_enter Tryd.func5, Tryd.ntmps5
    go_wp2_with fail
    refine (HF2.out _ HV.out).mono ?_
    rintro e w1 ⟨rfl, hb1⟩
    go_wp2_with fail
    refine (HTY.out _).mono ?_
    rintro e w2 ⟨rfl, rfl⟩
    go_wp2_with fail
    refine (HNm.out _ (HV.out.below hb1)).mono ?_
    rintro e w3 ⟨⟨nb, rfl, hok⟩, hb3⟩
    have HOK := Lib.hid hok
    have B3 := hb1.trans (hb3.mono hb1.size)
    clear hok
    cases nb
    · go_wp2_with fail
      go_ret
      exact ⟨rfl, B3⟩
    · go_wp2_with fail
      refine (H1.out _ (HV.out.below B3) (HOK.out (by trivial))).mono ?_
      rintro e w4 ⟨rfl, hb4⟩
      rw [HR.out]
      have B4 := B3.trans (hb4.mono B3.size)
      go_wp2_with fail
      refine (H2.out _ (HV.out.below B4)).mono ?_
      rintro e w5 ⟨rfl, hb5⟩
      go_wp2_with fail
      go_ret
      exact ⟨rfl, B4.trans (hb5.mono B4.size)⟩
  · have HTY := Lib.hid (show ∀ w, Calls Tryd.prog 11 #[.string t] w (Pure (.bool false) w) from fun w => type_no t w (by omega) hty)
    obtain ⟨p, c, rfl, _⟩ := hv
    clear hs hty
    go_enter Tryd.func5, Tryd.ntmps5
    go_wp2_with fail
    refine (HF2.out _ HV.out).mono ?_
    rintro e w1 ⟨rfl, hb1⟩
    go_wp2_with fail
    refine (HTY.out _).mono ?_
    rintro e w2 ⟨rfl, rfl⟩
    go_wp2_with fail
    go_ret
    exact ⟨rfl, hb1⟩
end Go.Proofs.YtglffpjobjpmpaaDoor
