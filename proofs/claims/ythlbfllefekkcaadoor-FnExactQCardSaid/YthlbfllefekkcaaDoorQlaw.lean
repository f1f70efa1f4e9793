/-
  THE WALKS OF FnExactQ AND FnSmall: the Q encoding of bytes gives these bytes; for every list of signs.
-/
import Derived.Test.YthlbfllefekkcaaDoorQdec
import Derived.Test.YthlbfllefekkcaaDoorSignOpen
import Derived.Deep.RegionWith
namespace Go.Proofs.YthlbfllefekkcaaDoor
open Go.RowKit
attribute [local go_sem ↓] Go.wp_at_zero Go.wp_at_succ

theorem cap_hex : ∀ n : Fin 256, isHex (hexCap (n.val / 16)) = true ∧ isHex (hexCap (n.val % 16)) = true ∧ hexByte (hexCap (n.val / 16)) (hexCap (n.val % 16)) = UInt8.ofNat n.val := by decide +kernel
theorem low_hex : ∀ n : Fin 256, isHex (hexLow (n.val / 16)) = true ∧ isHex (hexLow (n.val % 16)) = true ∧ hexByte (hexLow (n.val / 16)) (hexLow (n.val % 16)) = UInt8.ofNat n.val := by decide +kernel
theorem qdec_sign (y : Sg) (r x : List UInt8) (h : QDec r x) : QDec (written y ++ r) (y.b :: x) := by
  unfold written
  split
  · next h1 => exact .plain h1.2 h
  · split
    · next h2 => rw [h2.2]; exact .under h
    · split
      · obtain ⟨h1, h2, h3⟩ := low_hex ⟨y.b.toNat, y.b.toNat_lt⟩
        have := QDec.hex h1 h2 h
        rw [h3] at this
        simpa using this
      · obtain ⟨h1, h2, h3⟩ := cap_hex ⟨y.b.toNat, y.b.toNat_lt⟩
        have := QDec.hex h1 h2 h
        rw [h3] at this
        simpa using this
theorem qdec_qtext (l : List Sg) : QDec (qtext l) (l.map (·.b)) := by
  unfold qtext
  induction l with
  | nil => exact .nil
  | cons y r ih => rw [List.flatMap_cons, List.map_cons]; exact qdec_sign y _ _ ih

/-- What impl's DecodeQ hands back. -/
def DecI (q : Nat) (x : List UInt8) (w : World) (e : Ending) (w' : World) : Prop :=
  ∃ g, w.heap.size ≤ g ∧ e = .returned (.tuple #[.slice (some ⟨g, 0, none⟩) x.length q, .bool true]) ∧ Fills g q x w' ∧ Below w.heap.size w w'
theorem qDecodeM_c (s : ByteArray) (x : List UInt8) (w : World) (hs : s.size ≤ 1099511627776) (hx : QDec (L s) x) : Calls Tryd.prog 8 #[.string s] w (Dec s.size x w) := by
  have H := Lib.hid (qDecode_c s x w hs hx)
  clear hx hs
  go_enter Tryd.func8, Tryd.ntmps8
  go_wp2_with fail
  refine (H.out).mono ?_
  rintro e w1 ⟨rfl, hf, hb⟩
  go_wp2_with fail
  go_ret2
  exact ⟨rfl, hf, hb⟩
theorem decodeQ_c (s : ByteArray) (x : List UInt8) (w : World) (hs : s.size ≤ 1099511627776) (hx : QDec (L s) x) : Calls Tryd.prog 5 #[.string s] w (DecI s.size x w) := by
  have H := Lib.hid (qDecodeM_c s x w hs hx)
  clear hx hs
  go_enter Tryd.func5, Tryd.ntmps5
  go_wp2_with fail
  refine (H.out).mono ?_
  rintro e w1 ⟨rfl, hf, hb⟩
  go_wp2_with fail
  go_quiet (fail)
  go_wp2
  go_ret2
  exact ⟨_, Nat.le_refl _, rfl, hf, below_drewN hb _⟩

theorem fnSmall_walk (v : Value) (l : List Sg) (w : World) (hv : Signs v l w) (hl : l.length ≤ maxLen) : Calls Tryd.prog 4 #[v] w (Makes (.bool true) w) := by
  unfold maxLen at hl
  have hv' := hv
  obtain ⟨p, c, rfl, hc1, hc2, hcells⟩ := hv'
  clear hcells
  by_cases h1 : (2147483647 : Int) < (l.length : Int)
  · go_enter Tryd.func4, Tryd.ntmps4
    go_wp2
    go_ret
    exact ⟨rfl, Below.refl _ _⟩
  · have d1 : decide ((2147483647 : Int) < (l.length : Int)) = false := by simpa using h1
    have hl31 : l.length ≤ 2147483648 := by omega
    obtain ⟨q, hq, hqs⟩ := text_of (qtext l)
    have hq1 : q.size ≤ 1099511627776 := by rw [hqs]; have := qtext_len l; omega
    have HQ := Lib.hid (show (⟨(qtext l).toArray⟩ : ByteArray) = q from L_inj (by rw [L_mk, hq]))
    have HD := Lib.hid (show QDec (L q) (l.map (·.b)) by rw [hq]; exact qdec_qtext l)
    obtain ⟨x, hx⟩ : ∃ x, x = l.map (·.b) := ⟨_, rfl⟩
    have HX := Lib.hid hx
    have HV := Lib.hid hv
    clear hq hqs hx hv h1
    go_enter Tryd.func4, Tryd.ntmps4
    go_wp2_with (first
      | (go_at_call 6; refine (qtext_c _ l _ HV.out hl31).mono ?_; rintro e w1 ⟨rfl, hb1⟩; rw [HQ.out])
      | (go_at_call 5; refine (decodeQ_c _ x _ hq1 (by rw [HX.out]; exact HD.out)).mono ?_; rintro e w2 ⟨g, hg, rfl, hf, hb2⟩))
    have hcv := fills_string_part hf.drew
    go_region_with (go_at_call 7; refine (bytes_c _ l _ (HV.out.below ((hb1.trans (hb2.mono hb1.size)).drew)) hl31).mono ?_; rintro e w3 ⟨rfl, hb3⟩; rw [← HX.out]; have hcv3 := fills_string_part (hf.drew.below hb3))
    all_goals
      go_wp2
      go_ret
      exact ⟨rfl, (hb1.trans (hb2.mono hb1.size)).drew.trans (hb3.mono (by have h1 := hb1.size; have h2 := hb2.size; simp; omega))⟩

set_option maxRecDepth 100000 in
theorem fnExactQ_walk (v : Value) (l : List Sg) (w : World) (hv : Signs v l w) (hl : l.length ≤ maxLen) : Calls Tryd.prog 3 #[v] w (Makes (.bool true) w) := by
  unfold maxLen at hl
  have hv' := hv
  obtain ⟨p, c, rfl, hc1, hc2, hcells⟩ := hv'
  by_cases h1 : (2147483647 : Int) < (l.length : Int)
  · clear hcells
    go_enter Tryd.func3, Tryd.ntmps3
    go_wp2
    go_ret
    exact ⟨rfl, Below.refl _ _⟩
  · have d1 : decide ((2147483647 : Int) < (l.length : Int)) = false := by simpa using h1
    have hl31 : l.length ≤ 2147483648 := by omega
    obtain ⟨q, hq, hqs⟩ := text_of (qtext l)
    have hq1 : q.size ≤ 1099511627776 := by rw [hqs]; have := qtext_len l; omega
    have HQ := Lib.hid (show (⟨(qtext l).toArray⟩ : ByteArray) = q from L_inj (by rw [L_mk, hq]))
    have HD := Lib.hid (show QDec (L q) (l.map (·.b)) by rw [hq]; exact qdec_qtext l)
    obtain ⟨x, hx⟩ : ∃ x, x = l.map (·.b) := ⟨_, rfl⟩
    have HX := Lib.hid hx
    have HV := Lib.hid hv
    have HC := Lib.hid hcells
    clear hq hqs hx hv h1 hcells
    go_enter Tryd.func3, Tryd.ntmps3
    go_wp2_with fail
    go_loopw [12] (fun i wr => ∃ (k : Nat), k ≤ l.length ∧ i = .int .i64 k ∧ Below w.heap.size w wr) (fun i _ => l.length - (intOf i).toNat)
    case atStart => exact ⟨0, Nat.zero_le _, rfl, Below.refl _ _⟩
    case round =>
      obtain ⟨k, hk, rfl, hbel⟩ := hrel
      by_cases hlt : k < l.length
      · obtain ⟨y, hy⟩ : ∃ y, l[k]? = some y := ⟨l[k], List.getElem?_eq_getElem hlt⟩
        rcases HC.out with rfl | ⟨g, o, rfl, hg, hcells⟩
        · simp at hlt
        obtain ⟨h0, h1, h2⟩ := hcells k y hy
        have a0 := (hbel.cell (p := ⟨g, o + k * 3, none⟩) hg).trans h0
        have a1 := (hbel.cell (p := ⟨g, o + k * 3 + 1, none⟩) hg).trans h1
        have a2 := (hbel.cell (p := ⟨g, o + k * 3 + 2, none⟩) hg).trans h2
        clear h0 h1 h2 hcells hy
        obtain ⟨b, e, m⟩ := y
        simp only at a0 a1 a2
        cases m
        · go_wp2_with fail
          go_roundw
          case rel => exact ⟨k + 1, by omega, by go_num, hbel.alloc hbel.size _⟩
          case measure => simp [intOf]; omega
        · go_wp2_with fail
          go_ret
          exact ⟨rfl, hbel.alloc hbel.size _⟩
      · go_wp2_with (first
          | (go_at_call 6; refine (qtext_c _ l _ (HV.out.below hbel) hl31).mono ?_; rintro e w1 ⟨rfl, hb1⟩; rw [HQ.out])
          | (go_at_call 5; refine (decodeQ_c _ x _ hq1 (by rw [HX.out]; exact HD.out)).mono ?_; rintro e w2 ⟨g, hg, rfl, hf, hb2⟩))
        have hcv := fills_string_part hf.drew
        have hb12 : Below w.heap.size w w2 := (hbel.trans (hb1.mono hbel.size)).trans (hb2.mono (Nat.le_trans hbel.size hb1.size))
        go_region_with (go_at_call 7; refine (bytes_c _ l _ (HV.out.below hb12.drew) hl31).mono ?_; rintro e w3 ⟨rfl, hb3⟩; rw [← HX.out]; have hcv3 := fills_string_part (hf.drew.below hb3))
        all_goals
          go_wp2
          go_ret
          exact ⟨rfl, hb12.drew.trans (hb3.mono hb12.size)⟩
end Go.Proofs.YthlbfllefekkcaaDoor
