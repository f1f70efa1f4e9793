/-
  CONTRACT OF spec's Format: the type in small letters, and each parameter by ascending names.
-/
import Derived.Test.YtglffpjobjpmpaaDoorSrt
import Derived.Test.YtglffpjobjpmpaaDoorFmt
namespace Go.Proofs.YtglffpjobjpmpaaDoor
open Go.RowKit
attribute [local go_sem ↓] Go.wp_at_zero Go.wp_at_succ

def fmtP (l : List Pr) : List UInt8 := l.flatMap fun p => fmt1 (L p.n) (L p.v)
theorem fmtP_snoc (l : List Pr) (k : Nat) (x : Pr) (h : l[k]? = some x) : fmtP (l.take (k + 1)) = fmtP (l.take k) ++ fmt1 (L x.n) (L x.v) := by
  unfold fmtP; rw [List.take_add_one, h]; simp
theorem sortP_mem (l : List Pr) (y : Pr) : y ∈ sortP l ↔ y ∈ l := by
  have key : ∀ (r acc : List Pr), y ∈ r.foldl insP acc ↔ y ∈ acc ∨ y ∈ r := by
    intro r
    induction r with
    | nil => intro acc; simp
    | cons x r ih =>
      intro acc
      rw [List.foldl_cons, ih]
      have h1 : y ∈ insP acc x ↔ y ∈ acc ∨ y = x := by
        have h2 := List.takeWhile_append_dropWhile (p := fun z => ltP z x) (l := acc)
        have h3 : y ∈ acc ↔ y ∈ acc.takeWhile (fun z => ltP z x) ∨ y ∈ acc.dropWhile (fun z => ltP z x) := by
          rw [← List.mem_append, h2]
        unfold insP
        rw [h3]
        simp only [List.mem_append, List.mem_singleton]
        exact ⟨fun h => by rcases h with (h | h) | h; exact .inl (.inl h); exact .inr h; exact .inl (.inr h), fun h => by rcases h with (h | h) | h; exact .inl (.inl h); exact .inr h; exact .inl (.inr h)⟩
      rw [h1, List.mem_cons]
      exact or_assoc
  have := key l []
  simpa [sortP] using this

set_option maxHeartbeats 4000000 in
set_option maxRecDepth 100000 in
theorem specFormat_c (t : ByteArray) (v : Value) (l : List Pr) (w : World) (R : ByteArray) (ht : t.size ≤ 1048576) (hv : Prs v l w) (hl : l.length ≤ 1048576) (hs : ∀ p ∈ l, p.n.size ≤ 1048576 ∧ p.v.size ≤ 1048576) (hR : L R = Lib.toLowerA (L t) ++ fmtP (sortP l)) :
    Calls Tryd.prog 15 #[.string t, v] w (Makes (.string R) w) := by
  have HS := Lib.hid (fun p (hp : p ∈ sortP l) => hs p ((sortP_mem l p).1 hp))
  have HV := Lib.hid hv
  have hsl := sortP_len l
  have HR := Lib.hid hR
  obtain ⟨S, hS⟩ : ∃ S, S = sortP l := ⟨_, rfl⟩
  have HSO := Lib.hid (fun w (hv : Prs v l w) => sorted_c v l w hv hl)
  rw [← hS] at HS hsl HR HSO
  have hsl1 : S.length ≤ 1048576 := by omega
  obtain ⟨lt, hlt, hlts⟩ := text_of (Lib.toLowerA (L t))
  have HLT := Lib.hid (show (⟨(Lib.toLowerA (L t)).toArray⟩ : ByteArray) = lt from L_inj (by rw [L_mk, hlt]))
  have HL := Lib.hid hlt
  rw [low_len, L_length] at hlts
  have hlt1 : lt.size ≤ 1048576 := by omega
  obtain ⟨p0, c0, hvv, _⟩ := hv
  subst hvv
  clear hs hR hS hsl hlt hlts
  go_enter Tryd.func15, Tryd.ntmps15
  go_wp2_with fail
  refine (lower_c t _ (by omega)).mono ?_
  rintro e w1 ⟨rfl, hb1⟩
  rw [HLT.out]
  go_wp2_with fail
  refine (HSO.out _ (HV.out.below hb1)).mono ?_
  rintro e w2 ⟨sv, rfl, hown, hb2⟩
  obtain ⟨op, oc, rfl, hoc1, hoc2, hog⟩ := hown.shape
  have HO := Lib.hid hown
  have B2 := Lib.hid (hb1.trans (hb2.mono hb1.size))
  clear hown hb1 hb2
  go_wp2_with fail
  go_loopw [5, 13] (fun av iv wr => ∃ (k : Nat) (a : ByteArray), iv = .int .i64 k ∧ k ≤ S.length ∧ av = .string a ∧ L a = Lib.toLowerA (L t) ++ fmtP (S.take k) ∧ a.size ≤ 1048576 + k * 8388608 ∧ Below w2.heap.size w2 wr) (fun _ iv _ => S.length - (intOf iv).toNat)
  case atStart => exact ⟨0, lt, rfl, Nat.zero_le _, rfl, by rw [HL.out]; simp [fmtP], by omega, Below.refl _ _⟩
  case round =>
    obtain ⟨k, a, rfl, hk, rfl, ha, has, hbel⟩ := hrel
    have HA := Lib.hid ha
    clear ha
    by_cases hlt : k < S.length
    · obtain ⟨x, hx⟩ : ∃ x, S[k]? = some x := ⟨S[k], List.getElem?_eq_getElem hlt⟩
      rcases hog with h0 | ⟨og, rfl, hBog, hogl⟩
      · rw [h0] at hlt; simp at hlt
      obtain ⟨a0, a1⟩ := (HO.out.below hbel).cells k x hx
      obtain ⟨hxn, hxv⟩ := HS.out x (List.mem_of_getElem? hx)
      have HF := Lib.hid (fmtP_snoc S k x hx)
      have hf1 := fmt1_len (L x.n) (L x.v)
      rw [L_length, L_length] at hf1
      have hk2 : k + 1 ≤ 1048576 := by omega
      have hbs := hbel.size
      obtain ⟨ln, hln, hlns⟩ := text_of (Lib.toLowerA (L x.n))
      have HLN := Lib.hid (show (⟨(Lib.toLowerA (L x.n)).toArray⟩ : ByteArray) = ln from L_inj (by rw [L_mk, hln]))
      have HLB := Lib.hid hln
      rw [low_len, L_length] at hlns
      have hlns1 : ln.size ≤ 1048576 := by omega
      obtain ⟨W0, hW0⟩ : ∃ W0, W0 = wr.alloc (.cells #[.string x.n, .string x.v] 31) := ⟨_, rfl⟩
      have hal : Below wr.heap.size wr W0 := by rw [hW0]; exact (Below.refl _ _).alloc (Nat.le_refl _) _
      have hz : wr.heap.size < W0.heap.size := by rw [hW0]; simp
      have N0 : W0.heap[wr.heap.size]? = some (.cells #[.string x.n, .string x.v] 31 (0, 0)) := by rw [hW0]; exact heap_alloc_new wr _
      have keep : ∀ w', Below W0.heap.size W0 w' → w'.cell? ⟨wr.heap.size, 1, none⟩ = some (.string x.v) := fun w' hb => (hb.cell (p := ⟨wr.heap.size, 1, none⟩) hz).trans (by rw [Lib.cell_of_heap N0]; rfl)
      have d0 : W0.cell? ⟨wr.heap.size, 0, none⟩ = some (.string x.n) := by rw [Lib.cell_of_heap N0]; rfl
      have HW0 := Lib.hid hW0
      have HB := Lib.hid (hbel.trans (hal.mono hbs))
      have hz0 : w2.heap.size ≤ W0.heap.size := by omega
      clear hx hln hlns hW0 hal N0 hbel
      cases hp : allB prB (L x.v)
      · obtain ⟨q, hq, hqs⟩ := text_of (escA (L x.v))
        have HQ := Lib.hid (show (⟨(escA (L x.v)).toArray⟩ : ByteArray) = q from L_inj (by rw [L_mk, hq]))
        have hq1 : q.size ≤ 3145728 := by rw [hqs]; have := escA_len (L x.v); rw [L_length] at this; omega
        have HP := Lib.hid hp
        have HN := Lib.hid (show L (a ++ (⟨#[59, 32]⟩ ++ ln) ++ (⟨#[42, 61, 117, 116, 102, 45, 56, 39, 39]⟩ ++ q)) = Lib.toLowerA (L t) ++ fmtP (S.take (k + 1)) by
          rw [HF.out, ← List.append_assoc, ← HA.out]
          unfold fmt1 fmtV
          rw [if_neg (by rw [hp]; decide), append_L, append_L, append_L, append_L, HLB.out, hq]
          simp [L])
        clear hp hq hqs
        go_wp2_with fail
        rw [← HW0.out]
        refine (lower_c x.n _ (by omega)).mono ?_
        rintro e w3 ⟨rfl, hb3⟩
        rw [HLN.out]
        have d1 := keep _ hb3
        go_wp2_with fail
        refine (printable_c x.v _ (by omega)).mono ?_
        rintro e w4 ⟨rfl, rfl⟩
        rw [HP.out]
        go_wp2_with fail
        refine (escape_c x.v _ (by omega)).mono ?_
        rintro e w5 ⟨rfl, hb5⟩
        rw [HQ.out]
        go_wp2_with fail
        go_roundw
        case rel => exact ⟨k + 1, _, by go_num, by omega, rfl, HN.out, by rw [← L_length]; simp only [append_L, List.length_append, L_length]; have z1 : (⟨#[59, 32]⟩ : ByteArray).size = 2 := rfl; have z2 : (⟨#[42, 61, 117, 116, 102, 45, 56, 39, 39]⟩ : ByteArray).size = 9 := rfl; omega, (HB.out.trans (hb3.mono hz0)).trans (hb5.mono (Nat.le_trans hz0 hb3.size))⟩
        case measure => simp [intOf]; omega
      · cases hxt : isTok (L x.v)
        · obtain ⟨q, hq, hqs⟩ := text_of (quo (L x.v))
          have HQ := Lib.hid (show (⟨(quo (L x.v)).toArray⟩ : ByteArray) = q from L_inj (by rw [L_mk, hq]))
          have hq1 : q.size ≤ 3145728 := by rw [hqs]; have := esc_len (L x.v); rw [L_length] at this; unfold quo; simp only [List.length_append, List.length_cons, List.length_nil]; omega
          have HP := Lib.hid hp
          have HX := Lib.hid hxt
          have HN := Lib.hid (show L (a ++ (⟨#[59, 32]⟩ ++ ln) ++ (⟨#[61]⟩ ++ q)) = Lib.toLowerA (L t) ++ fmtP (S.take (k + 1)) by
            rw [HF.out, ← List.append_assoc, ← HA.out]
            unfold fmt1 fmtV
            rw [if_pos hp, if_neg (by rw [hxt]; decide), append_L, append_L, append_L, append_L, HLB.out, hq]
            simp [L])
          clear hp hxt hq hqs
          go_wp2_with fail
          rw [← HW0.out]
          refine (lower_c x.n _ (by omega)).mono ?_
          rintro e w3 ⟨rfl, hb3⟩
          rw [HLN.out]
          have d1 := keep _ hb3
          go_wp2_with fail
          refine (printable_c x.v _ (by omega)).mono ?_
          rintro e w4 ⟨rfl, rfl⟩
          rw [HP.out]
          go_wp2_with fail
          refine (specIsToken_c x.v _ (by omega)).mono ?_
          rintro e w5 ⟨rfl, rfl⟩
          rw [HX.out]
          go_wp2_with fail
          refine (quote_c x.v _ (by omega)).mono ?_
          rintro e w5 ⟨rfl, hb5⟩
          rw [HQ.out]
          go_wp2_with fail
          go_roundw
          case rel => exact ⟨k + 1, _, by go_num, by omega, rfl, HN.out, by rw [← L_length]; simp only [append_L, List.length_append, L_length]; have z1 : (⟨#[59, 32]⟩ : ByteArray).size = 2 := rfl; have z2 : (⟨#[61]⟩ : ByteArray).size = 1 := rfl; omega, (HB.out.trans (hb3.mono hz0)).trans (hb5.mono (Nat.le_trans hz0 hb3.size))⟩
          case measure => simp [intOf]; omega
        · have HP := Lib.hid hp
          have HX := Lib.hid hxt
          have HN := Lib.hid (show L (a ++ (⟨#[59, 32]⟩ ++ ln) ++ (⟨#[61]⟩ ++ x.v)) = Lib.toLowerA (L t) ++ fmtP (S.take (k + 1)) by
            rw [HF.out, ← List.append_assoc, ← HA.out]
            unfold fmt1 fmtV
            rw [if_pos hp, if_pos hxt, append_L, append_L, append_L, append_L, HLB.out]
            simp [L])
          clear hp hxt
          go_wp2_with fail
          rw [← HW0.out]
          refine (lower_c x.n _ (by omega)).mono ?_
          rintro e w3 ⟨rfl, hb3⟩
          rw [HLN.out]
          have d1 := keep _ hb3
          go_wp2_with fail
          refine (printable_c x.v _ (by omega)).mono ?_
          rintro e w4 ⟨rfl, rfl⟩
          rw [HP.out]
          go_wp2_with fail
          refine (specIsToken_c x.v _ (by omega)).mono ?_
          rintro e w5 ⟨rfl, rfl⟩
          rw [HX.out]
          go_wp2_with fail
          go_roundw
          case rel => exact ⟨k + 1, _, by go_num, by omega, rfl, HN.out, by rw [← L_length]; simp only [append_L, List.length_append, L_length]; have z1 : (⟨#[59, 32]⟩ : ByteArray).size = 2 := rfl; have z2 : (⟨#[61]⟩ : ByteArray).size = 1 := rfl; omega, HB.out.trans (hb3.mono hz0)⟩
          case measure => simp [intOf]; omega
    · have HE := Lib.hid (show a = R from L_inj (by rw [HA.out, HR.out, List.take_of_length_le (by omega)]))
      go_wp2_with fail
      go_ret
      exact ⟨by rw [HE.out]; rfl, B2.out.trans (hbel.mono B2.out.size)⟩
end Go.Proofs.YtglffpjobjpmpaaDoor
