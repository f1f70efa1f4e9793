/-
  CONTRACT OF impl's Format: the map that the pairs make is handed to FormatMediaType.
-/
import Derived.Test.YtglffpjobjpmpaaDoorFmt
import Derived.Test.YtglffpjobjpmpaaDoorMapD
namespace Go.Proofs.YtglffpjobjpmpaaDoor
open Go.RowKit Go.WideMaps Go.Maps Go.Sort
attribute [local go_sem ↓] Go.wp_at_zero Go.wp_at_succ

set_option maxHeartbeats 2000000 in
set_option maxRecDepth 100000 in
/-- Whatever FormatMediaType hands back for the map, Format hands back. -/
theorem implFormat_of (t r : ByteArray) (v : Value) (l : List Pr) (w : World) (hv : Prs v l w) (hl : l.length ≤ 1048576) (hs : ∀ p ∈ l, p.n.size ≤ 1048576 ∧ p.v.size ≤ 1048576)
    (HF : ∀ w', Below w.heap.size w w' → MapIs w.heap.size l.length (Dof l) w' → Calls Tryd.prog 21 #[.string t, .map (some w.heap.size)] w' (Makes (.string r) w')) :
    Calls Tryd.prog 13 #[.string t, v] w (Makes (.string r) w) := by
  obtain ⟨p, c, rfl, hc1, hc2, hcells⟩ := hv
  have HS := Lib.hid hs
  have HF := Lib.hid HF
  have hm0 : MapIs w.heap.size 0 (.map []) (w.alloc (.map #[] 0)) := World.ownsMap_made w _ _ _
  have HM0 := Lib.hid hm0
  have hmm := @run_makeMap Tryd.prog
  clear hs hm0
  go_enter Tryd.func13, Tryd.ntmps13
  go_wp2
  go_loopw [11] (fun i wr => ∃ (k : Nat), k ≤ l.length ∧ i = .int .i64 k ∧ MapIs w.heap.size k (Dof (l.take k)) wr ∧ Below w.heap.size w wr ∧ w.heap.size < wr.heap.size) (fun i _ => l.length - (intOf i).toNat)
  case atStart => exact ⟨0, Nat.zero_le _, rfl, HM0.out, (Below.refl _ _).alloc (Nat.le_refl _) _, by simp⟩
  case round =>
    obtain ⟨k, hk, rfl, hmap, hbel, hlt0⟩ := hrel
    by_cases hlt : k < l.length
    · obtain ⟨x, hx⟩ : ∃ x, l[k]? = some x := ⟨l[k], List.getElem?_eq_getElem hlt⟩
      have HZ := Lib.hid (HS.out x (List.mem_of_getElem? hx))
      have HD := Lib.hid (show Dof (l.take (k + 1)) = (Dof (l.take k)).put (.string (L x.n)) (.lit (.string (L x.v))) by rw [List.take_add_one, hx]; exact Dof_snoc _ _)
      rcases hcells with rfl | ⟨g, o, rfl, hg, hcells⟩
      · simp at hlt
      obtain ⟨h0, h1⟩ := hcells k x hx
      have a0 := (hbel.cell (p := ⟨g, o + k * 2, none⟩) hg).trans h0
      have a1 := (hbel.cell (p := ⟨g, o + k * 2 + 1, none⟩) hg).trans h1
      have hbs := hbel.size
      have hm1 := Lib.hid (World.ownsMap.alloc hmap (.cells #[.string x.n, .string x.v] 31))
      clear h0 h1 hcells hx hmap
      go_wp2_with (at_mapUpdate; refine wpList_mapUpdate_own _ rfl _ _ _ 37 rfl 9 9 keyLaw Tryd.underlying37 _ w.heap.size k _ rfl hm1.out (by unfold maxLen; omega) _ _ _ rfl rfl (keyOf_string_mk Tryd.underlying9 (by have := HZ.out.1; unfold maxLen; omega)) _ [] (plainElem_string Tryd.underlying9 (by have := HZ.out.2; unfold maxLen; omega)) ?_; intro w4 hown4 hgrow4)
      have hs4 := hgrow4.size
      simp only [World.size_alloc] at hs4
      have hb4 : Below w.heap.size w w4 := (hbel.alloc hbs (.cells #[.string x.n, .string x.v] 31)).grown hgrow4 (by simp; omega) (fun j hj => by cases hj; exact Nat.le_refl _)
      go_wp2_with fail
      go_roundw
      case rel => exact ⟨k + 1, by omega, by go_num, by rw [HD.out]; exact hown4, hb4, by omega⟩
      case measure => simp [intOf]; omega
    · have hkl : k = l.length := by omega
      have HM := Lib.hid (show MapIs w.heap.size l.length (Dof l) wr by rw [hkl, List.take_length] at hmap; exact hmap)
      clear hmap hkl
      go_wp2_with fail
      refine (HF.out _ hbel HM.out).mono ?_
      rintro e w5 ⟨rfl, hb5⟩
      go_wp2_with fail
      go_ret
      exact ⟨rfl, hbel.trans (hb5.mono hbel.size)⟩
end Go.Proofs.YtglffpjobjpmpaaDoor
