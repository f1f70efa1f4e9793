/-
  THE WALK OF FnRefused: a type that is none, or a name that is no token, gives no text; for arguments of bulk at most 1048576.
-/
import Derived.Test.YtglffpjobjpmpaaDoorImpF
namespace Go.Proofs.YtglffpjobjpmpaaDoor
open Go.RowKit Go.WideMaps Go.Maps Go.Sort
attribute [local go_sem ↓] Go.wp_at_zero Go.wp_at_succ

theorem format_no (t : ByteArray) (v : Value) (l : List Pr) (w : World) (ht : t.size ≤ 1048576) (hv : Prs v l w) (hl : l.length ≤ 1048576) (hs : ∀ p ∈ l, p.n.size ≤ 1048576 ∧ p.v.size ≤ 1048576) (h : ¬ TypeIs (L t)) :
    Calls Tryd.prog 13 #[.string t, v] w (Makes (.string ⟨#[]⟩) w) :=
  implFormat_of t _ v l w hv hl hs fun w' _ _ => formatMT_no t _ w' (by omega) h

/-- What the names of the map are. -/
theorem MapIs.name {b n : Nat} {l : List Pr} {w : World} (h : MapIs b n (Dof l) w) (k : List UInt8) : k ∈ strKeys (Dof l) ↔ ∃ p ∈ l, L p.n = k := by
  rw [h.mem, Dof_has, List.any_eq_true]
  simp
theorem format_yes (t : ByteArray) (v : Value) (l : List Pr) (w : World) (R : List UInt8) (ht : t.size ≤ 1048576) (hv : Prs v l w) (hl : l.length ≤ 1048576) (hs : ∀ p ∈ l, p.n.size ≤ 1048576 ∧ p.v.size ≤ 1048576) (h : TypeIs (L t))
    (hR : ∀ b n w', MapIs b n (Dof l) w' → fmtR (L t) (Dof l) ((strKeys (Dof l)).mergeSort leB) = R) :
    Calls Tryd.prog 13 #[.string t, v] w (Makes (.string ⟨R.toArray⟩) w) := by
  refine implFormat_of t _ v l w hv hl hs fun w' _ hm => ?_
  have hk : ∀ k ∈ strKeys (Dof l), k.length ≤ 1048576 := fun k hk => by
    obtain ⟨p, hp, e⟩ := (hm.name k).1 hk
    rw [← e, L_length]; exact (hs p hp).1
  refine (formatMT_yes t _ _ (Dof l) w' (by omega) h hm (Nat.le_trans (World.ownsMap.size_le hm) hl) hk (valD_len l _ fun p hp => (hs p hp).2)).mono ?_
  rintro e w1 ⟨⟨ss, hp, rfl⟩, hb⟩
  refine ⟨?_, hb⟩
  rw [← hR _ _ _ hm, ← mergeSort_of_perm hp]

/-- Is there a name that is no token? -/
def badB (l : List Pr) : Bool := l.any fun p => !isTok (L p.n)
theorem badB_snoc (l : List Pr) (k : Nat) (x : Pr) (h : l[k]? = some x) : badB (l.take (k + 1)) = (badB (l.take k) || !isTok (L x.n)) := by
  unfold badB; rw [List.take_add_one, h, List.any_append]; simp

/-- What Format hands back: no text just if the type is none or a name is no token. -/
theorem format_text (t : ByteArray) (v : Value) (l : List Pr) (w : World) (ht : t.size ≤ 1048576) (hv : Prs v l w) (hl : l.length ≤ 1048576) (hs : ∀ p ∈ l, p.n.size ≤ 1048576 ∧ p.v.size ≤ 1048576) (ty : Bool) (hty : ty = true ↔ TypeIs (L t)) :
    ∃ r : ByteArray, Calls Tryd.prog 13 #[.string t, v] w (Makes (.string r) w) ∧ r.toList.isEmpty = (!ty || badB l) := by
  cases ty
  · exact ⟨⟨#[]⟩, format_no t v l w ht hv hl hs (fun h => by have := hty.2 h; cases this), by rw [toList_L]; rfl⟩
  · have h := hty.1 rfl
    cases hb : badB l
    · refine ⟨_, format_yes t v l w (Lib.toLowerA (L t) ++ fmtAll (Dof l) ((strKeys (Dof l)).mergeSort leB)) ht hv hl hs h ?_, ?_⟩
      · intro b n w' hm
        unfold fmtR
        rw [if_pos]
        rw [List.all_eq_true]
        intro k hk
        obtain ⟨p, hp, e⟩ := (hm.name k).1 (List.mem_mergeSort.1 hk)
        cases hx : isTok k with
        | true => rfl
        | false =>
          have : badB l = true := List.any_eq_true.2 ⟨p, hp, by rw [e, hx]; rfl⟩
          rw [hb] at this; cases this
      · rw [toList_L, L_mk]
        have hne : L t ≠ [] := by
          rcases h with h | ⟨a, b, e, _, _⟩
          · exact (isTok_parts _ h).1
          · rw [e]; simp
        cases hlt : L t with
        | nil => exact absurd hlt hne
        | cons c r => rfl
    · refine ⟨_, format_yes t v l w [] ht hv hl hs h ?_, by rw [toList_L, L_mk]; rfl⟩
      intro b n w' hm
      unfold fmtR
      rw [if_neg]
      intro hall
      obtain ⟨p, hp, e⟩ := List.any_eq_true.1 hb
      have := List.all_eq_true.1 hall (L p.n) (List.mem_mergeSort.2 ((hm.name _).2 ⟨p, hp, rfl⟩))
      rw [this] at e
      cases e

set_option maxHeartbeats 2000000 in
set_option maxRecDepth 100000 in
theorem fnRefused_walk (t : ByteArray) (v : Value) (l : List Pr) (w : World) (ht : t.size ≤ 1048576) (hv : Prs v l w) (hl : l.length ≤ 1048576) (hs : ∀ p ∈ l, p.n.size ≤ 1048576 ∧ p.v.size ≤ 1048576) : Calls Tryd.prog 4 #[.string t, v] w (Makes (.bool true) w) := by
  obtain ⟨ty, hty⟩ : ∃ ty : Bool, ty = true ↔ TypeIs (L t) := by
    by_cases h : TypeIs (L t)
    · exact ⟨true, by simp [h]⟩
    · exact ⟨false, by simp [h]⟩
  have HTY := Lib.hid (show ∀ w, Calls Tryd.prog 11 #[.string t] w (Pure (.bool ty) w) from fun w => by
    cases ty
    · exact type_no t w (by omega) (fun h => by have := hty.2 h; cases this)
    · exact type_yes t w (by omega) (hty.1 rfl))
  have HV := Lib.hid hv
  have HS := Lib.hid hs
  have HF := Lib.hid (fun w' (hv' : Prs v l w') => format_text t v l w' ht hv' hl hs ty hty)
  have d0 : decide ((2147483647 : Int) < (t.size : Int)) = false := decide_eq_false (by omega)
  have d1 : decide ((16777216 : Int) < (t.size : Int)) = false := decide_eq_false (by omega)
  obtain ⟨p, c, rfl, hc1, hc2, hcells⟩ := hv
  clear hty hs
  go_enter Tryd.func4, Tryd.ntmps4
  go_wp2_with fail
  refine (zzFits2_c _ l _ HV.out (by omega) fun x hx => ⟨Nat.le_trans (HS.out x hx).1 (by omega), Nat.le_trans (HS.out x hx).2 (by omega)⟩).mono ?_
  rintro e w1 ⟨rfl, hb1⟩
  go_wp2_with fail
  refine (HTY.out _).mono ?_
  rintro e w2 ⟨rfl, rfl⟩
  go_wp2_with fail
  go_loopw [5, 24] (fun bv iv wr => ∃ (k : Nat), iv = .int .i64 k ∧ k ≤ l.length ∧ bv = .bool (!ty || badB (l.take k)) ∧ Below w.heap.size w wr) (fun _ iv _ => l.length - (intOf iv).toNat)
  case atStart => exact ⟨0, rfl, Nat.zero_le _, by simp [badB], hb1⟩
  case round =>
    obtain ⟨k, rfl, hk, rfl, hbel⟩ := hrel
    by_cases hlt : k < l.length
    · obtain ⟨x, hx⟩ : ∃ x, l[k]? = some x := ⟨l[k], List.getElem?_eq_getElem hlt⟩
      have hz := (HS.out x (List.mem_of_getElem? hx)).1
      have HB := Lib.hid (badB_snoc l k x hx)
      rcases hcells with rfl | ⟨g, o, rfl, hg, hcells⟩
      · simp at hlt
      obtain ⟨h0, h1⟩ := hcells k x hx
      have a0 := (hbel.cell (p := ⟨g, o + k * 2, none⟩) hg).trans h0
      have a1 := (hbel.cell (p := ⟨g, o + k * 2 + 1, none⟩) hg).trans h1
      have hbs := hbel.size
      obtain ⟨bb, hbb⟩ : ∃ bb : Bool, bb = (!ty || badB (l.take k)) := ⟨_, rfl⟩
      rw [← hbb]
      have HBB := Lib.hid hbb
      clear h0 h1 hcells hx hbb
      cases bb
      · go_wp2_with fail
        refine (specIsToken_c x.n _ (by omega)).mono ?_
        rintro e w3 ⟨rfl, rfl⟩
        go_wp2_with fail
        go_roundw
        case rel => exact ⟨k + 1, by go_num, by omega, by rw [HB.out, ← Bool.or_assoc, ← HBB.out]; simp, hbel.alloc hbs _⟩
        case measure => simp [intOf]; omega
      · go_wp2_with fail
        go_roundw
        case rel => exact ⟨k + 1, by go_num, by omega, by rw [HB.out, ← Bool.or_assoc, ← HBB.out]; simp, hbel.alloc hbs _⟩
        case measure => simp [intOf]; omega
    · have HE := Lib.hid (show badB (l.take k) = badB l by rw [List.take_of_length_le (by omega)])
      obtain ⟨r, hr, hre⟩ := HF.out wr (HV.out.below hbel)
      have HR := Lib.hid hre
      rw [HE.out]
      clear hre
      go_wp2_with fail
      refine hr.mono ?_
      rintro e w4 ⟨rfl, hb4⟩
      go_wp2_with fail
      go_ret
      exact ⟨ret_bool (by rw [HR.out]; exact beq_self_eq_true _), hbel.trans (hb4.mono hbel.size)⟩
end Go.Proofs.YtglffpjobjpmpaaDoor
