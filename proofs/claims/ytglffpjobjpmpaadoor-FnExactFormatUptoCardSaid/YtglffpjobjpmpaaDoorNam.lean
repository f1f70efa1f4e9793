/-
  CONTRACT OF spec's Names: what it says yes to.
-/
import Derived.Test.YtglffpjobjpmpaaDoorPair
import Derived.Test.YtglffpjobjpmpaaDoorLow
import Derived.BigRegion
import Derived.Deep.RegionWith
namespace Go.Proofs.YtglffpjobjpmpaaDoor
open Go.RowKit
attribute [local go_sem ↓] Go.wp_at_zero Go.wp_at_succ

/-- Names that are tokens, of which no two are one in small letters. -/
def NamesOk (l : List Pr) : Prop := (∀ p ∈ l, isTok (L p.n) = true) ∧ l.Pairwise (fun p q => Lib.toLowerA (L p.n) ≠ Lib.toLowerA (L q.n))
theorem NamesOk.snoc {l : List Pr} {k : Nat} {x : Pr} (h : NamesOk (l.take k)) (hx : l[k]? = some x) (ht : isTok (L x.n) = true) (hd : ∀ y ∈ l.take k, Lib.toLowerA (L y.n) ≠ Lib.toLowerA (L x.n)) : NamesOk (l.take (k + 1)) := by
  rw [List.take_add_one, hx]
  refine ⟨fun p hp => ?_, ?_⟩
  · rcases List.mem_append.1 hp with hp | hp
    · exact h.1 p hp
    · simp at hp; rw [hp]; exact ht
  · rw [List.pairwise_append]
    exact ⟨h.2, by simp, fun a ha b hb => by simp at hb; rw [hb]; exact hd a ha⟩

/-- A text in small letters. -/
def lowOf (s : ByteArray) : ByteArray := ⟨(Lib.toLowerA (L s)).toArray⟩
theorem lowOf_c (s : ByteArray) (w : World) (hs : s.size ≤ 1048576) : Calls Tryd.prog 16 #[.string s] w (Makes (.string (lowOf s)) w) := lower_c s w (by omega)
theorem lowOf_eq (x y : ByteArray) : ((lowOf y).toList == (lowOf x).toList) = decide (Lib.toLowerA (L y) = Lib.toLowerA (L x)) := by
  have e : ∀ z : ByteArray, (lowOf z).toList = Lib.toLowerA (L z) := fun z => by rw [toList_L]; exact L_mk _
  rw [e, e]
  by_cases h : Lib.toLowerA (L y) = Lib.toLowerA (L x)
  · rw [h, beq_self_eq_true, decide_eq_true rfl]
  · rw [decide_eq_false h, beq_eq_false_iff_ne]; exact h
theorem keep2 {W0 W1 w' w'' : World} {a b : Nat} {u v : Value} (hX : ∀ w', Below W0.heap.size W0 w' → w'.cell? ⟨a, 0, none⟩ = some u) (hY : ∀ w', Below W1.heap.size W1 w' → w'.cell? ⟨b, 0, none⟩ = some v) (h1 : Below W0.heap.size W0 W1)
    (hN : Below W1.heap.size W1 w') (hb : Below w'.heap.size w' w'') : w''.cell? ⟨a, 0, none⟩ = some u ∧ w''.cell? ⟨b, 0, none⟩ = some v ∧ Hid (Below W1.heap.size W1 w'') := by
  have h := hN.trans (hb.mono hN.size)
  exact ⟨hX _ (h1.trans (h.mono h1.size)), hY _ h, Lib.hid h⟩
set_option maxHeartbeats 800000 in
set_option maxRecDepth 100000 in
theorem names_c (v : Value) (l : List Pr) (w : World) (hv : Prs v l w) (hl : l.length ≤ 1048576) (hs : ∀ p ∈ l, p.n.size ≤ 1048576 ∧ p.v.size ≤ 1048576) :
    Calls Tryd.prog 14 #[v] w fun e w' => (∃ b : Bool, e = .returned (.bool b) ∧ (b = true → NamesOk l)) ∧ Below w.heap.size w w' := by
  obtain ⟨p, c, rfl, hc1, hc2, hcells⟩ := hv
  have HS := Lib.hid hs
  clear hs
  unfold maxLen at hc2
  go_enter Tryd.func14, Tryd.ntmps14
  go_wp2
  go_loopw [2, 9] (fun _ iv wr => ∃ (k : Nat), iv = .int .i64 k ∧ k ≤ l.length ∧ NamesOk (l.take k) ∧ Below w.heap.size w wr) (fun _ iv _ => l.length - (intOf iv).toNat)
  case atStart => exact ⟨0, rfl, Nat.zero_le _, ⟨by simp, by simp⟩, Below.refl _ _⟩
  case round =>
    obtain ⟨k, rfl, hk, hok, hbel⟩ := hrel
    have HOK := Lib.hid hok
    clear hok
    by_cases hlt : k < l.length
    · obtain ⟨x, hx⟩ : ∃ x, l[k]? = some x := ⟨l[k], List.getElem?_eq_getElem hlt⟩
      have hxn := (HS.out x (List.mem_of_getElem? hx)).1
      rcases hcells with rfl | ⟨g, o, rfl, hg, hcells⟩
      · simp at hlt
      obtain ⟨h0, h1⟩ := hcells k x hx
      have a0 := (hbel.cell (p := ⟨g, o + k * 2, none⟩) hg).trans h0
      have a1 := (hbel.cell (p := ⟨g, o + k * 2 + 1, none⟩) hg).trans h1
      have hbs := hbel.size
      have HX := Lib.hid hx
      have HCE := Lib.hid hcells
      clear h0 h1 hcells hx
      cases htok : isTok (L x.n)
      · have HT := Lib.hid htok
        clear htok
        go_wp2_with fail
        refine (specIsToken_c x.n _ (by omega)).mono ?_
        rintro e w3 ⟨rfl, rfl⟩
        rw [HT.out]
        go_wp2_with fail
        go_ret
        exact ⟨⟨false, rfl, fun h => by cases h⟩, hbel.alloc hbs _⟩
      · cases hst : hasB (L x.n) 42
        · have HT := Lib.hid htok
          have HST := Lib.hid hst
          clear htok hst
          go_wp2_with fail
          refine (specIsToken_c x.n _ (by omega)).mono ?_
          rintro e w3 ⟨rfl, rfl⟩
          rw [HT.out]
          go_wp2_with fail
          refine (within_c x.n 42 _ (by omega)).mono ?_
          rintro e w4 ⟨rfl, rfl⟩
          rw [HST.out]
          obtain ⟨W0, hW0⟩ : ∃ W0, W0 = wr.alloc (.cells #[.string x.n, .string x.v] 31) := ⟨_, rfl⟩
          have hz : wr.heap.size < W0.heap.size := by rw [hW0]; simp
          have N0 : W0.heap[wr.heap.size]? = some (.cells #[.string x.n, .string x.v] 31 (0, 0)) := by rw [hW0]; exact heap_alloc_new wr _
          have KX : ∀ w', Below W0.heap.size W0 w' → w'.cell? ⟨wr.heap.size, 0, none⟩ = some (.string x.n) := fun w' hb => (hb.cell (p := ⟨wr.heap.size, 0, none⟩) hz).trans (by rw [Lib.cell_of_heap N0]; rfl)
          have BW : Below w.heap.size w W0 := by rw [hW0]; exact hbel.alloc hbs _
          have HW0 := Lib.hid hW0
          have HKX := Lib.hid KX
          have HBW := Lib.hid BW
          clear hW0 KX BW N0 hbel
          go_wp2_with fail
          rw [← HW0.out]
          go_loopw [2, 27] (fun _ iv wi => ∃ (j : Nat), iv = .int .i64 j ∧ j ≤ k ∧ Below W0.heap.size W0 wi ∧ ∀ y ∈ l.take j, Lib.toLowerA (L y.n) ≠ Lib.toLowerA (L x.n)) (fun _ iv _ => k - (intOf iv).toNat)
          case atStart => exact ⟨0, rfl, Nat.zero_le _, Below.refl _ _, fun y hy => by simp at hy⟩
          case round =>
            obtain ⟨j, rfl, hj, hbi, hne⟩ := hrel
            have HNE := Lib.hid hne
            have Bi : Below w.heap.size w wr := HBW.out.trans (hbi.mono HBW.out.size)
            have x0 := HKX.out _ hbi
            clear hne
            by_cases hjk : j < k
            · obtain ⟨y, hy⟩ : ∃ y, l[j]? = some y := ⟨l[j], List.getElem?_eq_getElem (by omega)⟩
              obtain ⟨h0, h1⟩ := HCE.out j y hy
              have y0 := (Bi.cell (p := ⟨g, o + j * 2, none⟩) hg).trans h0
              have y1 := (Bi.cell (p := ⟨g, o + j * 2 + 1, none⟩) hg).trans h1
              have hyn := (HS.out y (List.mem_of_getElem? hy)).1
              have hBi := Bi.size
              have hbz := hbi.size
              obtain ⟨W1, hW1⟩ : ∃ W1, W1 = wr.alloc (.cells #[.string y.n, .string y.v] 31) := ⟨_, rfl⟩
              have hz1 : wr.heap.size < W1.heap.size := by rw [hW1]; simp
              have N1 : W1.heap[wr.heap.size]? = some (.cells #[.string y.n, .string y.v] 31 (0, 0)) := by rw [hW1]; exact heap_alloc_new wr _
              have B1 : Below W0.heap.size W0 W1 := by rw [hW1]; exact hbi.alloc hbz _
              have KY : ∀ w', Below W1.heap.size W1 w' → w'.cell? ⟨wr.heap.size, 0, none⟩ = some (.string y.n) := fun w' hb => (hb.cell (p := ⟨wr.heap.size, 0, none⟩) hz1).trans (by rw [Lib.cell_of_heap N1]; rfl)
              have ky0 := KY _ (Below.refl _ _)
              have kx0 := HKX.out _ B1
              have HKY := Lib.hid KY
              have HB1 := Lib.hid B1
              have HW1 := Lib.hid hW1
              have HN0 : Hid (Below W1.heap.size W1 W1.drew) := Lib.hid ⟨rfl, rfl, rfl, Nat.le_refl _, fun _ _ => rfl⟩
              have HY := Lib.hid hy
              clear hW1 N1 B1 KY hy h0 h1
              have HXN := Lib.hid hxn
              have HYN := Lib.hid hyn
              cases hcmp : ((lowOf y.n).toList == (lowOf x.n).toList)
              · have HNX := Lib.hid (show ∀ z ∈ l.take (j + 1), Lib.toLowerA (L z.n) ≠ Lib.toLowerA (L x.n) from fun z hz => by
                  rw [List.take_add_one, HY.out] at hz
                  rcases List.mem_append.1 hz with hz | hz
                  · exact HNE.out z hz
                  · simp at hz
                    rw [hz]
                    rw [lowOf_eq] at hcmp
                    exact of_decide_eq_false hcmp)
                go_wp2_with fail
                rw [← HW1.out]
                go_region_with (go_at_call 16; refine (lowOf_c _ _ (by first | exact HXN.out | exact HYN.out)).mono ?_; rintro e w5 ⟨rfl, hb5⟩; obtain ⟨q0, q1, HN0⟩ := keep2 HKX.out HKY.out HB1.out HN0.out hb5)
                all_goals
                  go_wp2_with fail
                  go_roundw
                  case rel => exact ⟨j + 1, by go_num, by omega, HB1.out.trans (HN0.out.mono HB1.out.size), HNX.out⟩
                  case measure => simp [intOf]; omega
              · go_wp2_with fail
                rw [← HW1.out]
                go_region_with (go_at_call 16; refine (lowOf_c _ _ (by first | exact HXN.out | exact HYN.out)).mono ?_; rintro e w5 ⟨rfl, hb5⟩; obtain ⟨q0, q1, HN0⟩ := keep2 HKX.out HKY.out HB1.out HN0.out hb5)
                all_goals
                  go_wp2_with fail
                  go_ret
                  exact ⟨⟨false, rfl, fun h => by cases h⟩, HBW.out.trans ((HB1.out.trans (HN0.out.mono HB1.out.size)).mono HBW.out.size)⟩
            · have hjk1 : j = k := by omega
              have HG := Lib.hid (HOK.out.snoc HX.out HT.out (by rw [← hjk1]; exact HNE.out))
              clear hjk1
              go_wp2_with fail
              go_roundw
              case rel => exact ⟨k + 1, by go_num, by omega, HG.out, Bi⟩
              case measure => simp [intOf]; omega
        · have HT := Lib.hid htok
          have HST := Lib.hid hst
          clear htok hst
          go_wp2_with fail
          refine (specIsToken_c x.n _ (by omega)).mono ?_
          rintro e w3 ⟨rfl, rfl⟩
          rw [HT.out]
          go_wp2_with fail
          refine (within_c x.n 42 _ (by omega)).mono ?_
          rintro e w4 ⟨rfl, rfl⟩
          rw [HST.out]
          go_wp2_with fail
          go_ret
          exact ⟨⟨false, rfl, fun h => by cases h⟩, hbel.alloc hbs _⟩
    · have HE := Lib.hid (show NamesOk l by have := HOK.out; rw [List.take_of_length_le (by omega)] at this; exact this)
      go_wp2_with fail
      go_ret
      exact ⟨⟨true, rfl, fun _ => HE.out⟩, hbel⟩
end Go.Proofs.YtglffpjobjpmpaaDoor
