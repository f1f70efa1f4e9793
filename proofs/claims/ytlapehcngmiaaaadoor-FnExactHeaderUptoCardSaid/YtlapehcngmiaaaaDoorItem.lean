/-
  SLICES OF ITEMS (two marks and a text each): what the argument looks like in memory; laws' zzFits5 and zzFits6, spec's tokenless and Clean.
-/
import Derived.Test.YtlapehcngmiaaaaDoorStr
import Derived.Test.YtlapehcngmiaaaaDoorNoWord
import Derived.Test.YtlapehcngmiaaaaDoorShelf
import Derived.Deep.DrawnRows
import Derived.IntWalk
namespace Go.Proofs.YtlapehcngmiaaaaDoor
open Go.RowKit
attribute [local go_sem ↓] Go.wp_at_zero Go.wp_at_succ

/-- An item: is it a word; in the Q encoding; its text. -/
structure It where
  wd : Bool
  q : Bool
  s : ByteArray

/-- v is a slice that holds the items l. -/
def Items (v : Value) (l : List It) (w : World) : Prop :=
  ∃ p c, v = .slice p l.length c ∧ l.length ≤ c ∧ c ≤ maxLen ∧ (l = [] ∨ ∃ g o, p = some ⟨g, o, none⟩ ∧ g < w.heap.size ∧
    ∀ i x, l[i]? = some x → w.cell? ⟨g, o + i * 3, none⟩ = some (.bool x.wd) ∧ w.cell? ⟨g, o + i * 3 + 1, none⟩ = some (.bool x.q) ∧ w.cell? ⟨g, o + i * 3 + 2, none⟩ = some (.string x.s))
theorem Items.below {v : Value} {l : List It} {w w' : World} (h : Items v l w) (hb : Below w.heap.size w w') : Items v l w' := by
  obtain ⟨p, c, hv, h1, h2, h3⟩ := h
  refine ⟨p, c, hv, h1, h2, ?_⟩
  rcases h3 with h3 | ⟨g, o, hp, hg, hc⟩
  · exact .inl h3
  · refine .inr ⟨g, o, hp, Nat.lt_of_lt_of_le hg hb.size, fun i x hi => ?_⟩
    have := hc i x hi
    refine ⟨?_, ?_, ?_⟩
    · rw [hb.cell (p := ⟨g, _, none⟩) hg]; exact this.1
    · rw [hb.cell (p := ⟨g, _, none⟩) hg]; exact this.2.1
    · rw [hb.cell (p := ⟨g, _, none⟩) hg]; exact this.2.2

set_option maxRecDepth 100000 in
theorem zzFits6_c (a b : Bool) (s : ByteArray) (w : World) (h : s.size ≤ 2147483647) : Calls Tryd.prog 26 #[.agg #[.bool a, .bool b, .string s]] w (Makes (.bool true) w) := by
  have h' : decide ((2147483647 : Int) < (s.size : Int)) = false := decide_eq_false (by omega)
  go_enter Tryd.func26, Tryd.ntmps26
  go_wp2
  go_ret
  exact ⟨rfl, (Below.refl _ _).alloc (Nat.le_refl _) _⟩

set_option maxRecDepth 100000 in
theorem zzFits5_c (v : Value) (l : List It) (w : World) (hv : Items v l w) (hl : l.length ≤ 2147483647) (hs : ∀ x ∈ l, x.s.size ≤ 2147483647) : Calls Tryd.prog 16 #[v] w (Makes (.bool true) w) := by
  obtain ⟨p, c, rfl, hc1, hc2, hcells⟩ := hv
  have HS := Lib.hid hs
  clear hs
  go_enter Tryd.func16, Tryd.ntmps16
  go_wp2
  go_loopw [2, 10] (fun r i wr => ∃ (k : Nat), k ≤ l.length ∧ i = .int .i64 k ∧ Below w.heap.size w wr) (fun _ i _ => l.length - (intOf i).toNat)
  case atStart => exact ⟨0, Nat.zero_le _, rfl, Below.refl _ _⟩
  case round =>
    obtain ⟨k, hk, rfl, hbel⟩ := hrel
    by_cases hlt : k < l.length
    · obtain ⟨x, hx⟩ : ∃ x, l[k]? = some x := ⟨l[k], List.getElem?_eq_getElem hlt⟩
      have HZ := Lib.hid (HS.out x (List.mem_of_getElem? hx))
      rcases hcells with rfl | ⟨g, o, rfl, hg, hcells⟩
      · simp at hlt
      obtain ⟨h0, h1, h2⟩ := hcells k x hx
      have a0 := (hbel.cell (p := ⟨g, o + k * 3, none⟩) hg).trans h0
      have a1 := (hbel.cell (p := ⟨g, o + k * 3 + 1, none⟩) hg).trans h1
      have a2 := (hbel.cell (p := ⟨g, o + k * 3 + 2, none⟩) hg).trans h2
      clear h0 h1 h2 hcells hx
      go_wp2_with fail
      refine (zzFits6_c _ _ _ _ HZ.out).mono ?_
      rintro e w1 ⟨rfl, hb1⟩
      go_wp2_with fail
      go_roundw
      case rel => exact ⟨k + 1, by omega, by go_num, (hbel.alloc hbel.size _).trans (hb1.mono (by have := hbel.size; simp; omega))⟩
      case measure => simp [intOf]; omega
    · go_wp2_with fail
      go_ret
      exact ⟨rfl, hbel⟩

/-- Blanks and tabs alone. -/
def blankB (b : UInt8) : Bool := b == 32 || b == 9
theorem tokenless_c (s : ByteArray) (w : World) (hs : s.size ≤ 4611686018427387904) : Calls Tryd.prog 28 #[.string s] w (Pure (.bool (allB blankB (L s))) w) := by
  go_enter Tryd.func28, Tryd.ntmps28
  go_wp2
  go_loop [3] (fun i => ∃ k : Nat, k ≤ s.size ∧ i = .int .i64 k ∧ allB blankB ((L s).drop k) = allB blankB (L s)) (fun i => s.size - (intOf i).toNat)
  case atStart => exact ⟨0, Nat.zero_le _, rfl, rfl⟩
  case round =>
    obtain ⟨k, hk, rfl, hno⟩ := hrel
    have HN := Lib.hid hno
    clear hno
    by_cases hlt : k < s.size
    · have hd := L_drop s k hlt
      by_cases c32 : s[k] = 32
      · have t1 : ((s[k].toNat : Int) != 32) = false := bne_yes _ 32 _ rfl c32
        have hst : allB blankB ((L s).drop (k + 1)) = allB blankB (L s) := by rw [← HN.out, hd, allB, if_pos (by rw [c32]; rfl)]
        have HT := Lib.hid hst
        clear hst hd c32
        go_wp2
        go_round
        case rel => exact ⟨k + 1, by omega, by go_num, HT.out⟩
        case measure => simp [intOf]; omega
      · have t1 : ((s[k].toNat : Int) != 32) = true := bne_no _ 32 _ rfl c32
        by_cases c9 : s[k] = 9
        · have t2 : ((s[k].toNat : Int) != 9) = false := bne_yes _ 9 _ rfl c9
          have hst : allB blankB ((L s).drop (k + 1)) = allB blankB (L s) := by rw [← HN.out, hd, allB, if_pos (by rw [c9]; rfl)]
          have HT := Lib.hid hst
          clear hst hd c32 c9
          go_wp2
          go_round
          case rel => exact ⟨k + 1, by omega, by go_num, HT.out⟩
          case measure => simp [intOf]; omega
        · have t2 : ((s[k].toNat : Int) != 9) = true := bne_no _ 9 _ rfl c9
          have hst : allB blankB (L s) = false := by rw [← HN.out, hd, allB, if_neg (by unfold blankB; simp [c32, c9])]
          have HT := Lib.hid hst
          clear hst hd c32 c9
          go_wp2
          go_ret
          exact ⟨ret_bool HT.out.symm, rfl⟩
    · have hst : allB blankB (L s) = true := by rw [← HN.out, L_drop_end s k hlt, allB]
      have HT := Lib.hid hst
      clear hst
      go_wp2
      go_ret
      exact ⟨ret_bool HT.out.symm, rfl⟩

/-- An item that Clean lets pass. -/
def okIt (x : It) : Bool := if x.wd = true then Lib.validD (L x.s) else allB prB (L x.s) && !starts (L x.s) && !allB blankB (L x.s)
def okAll (l : List It) : Bool := l.all okIt
theorem okAll_drop (l : List It) (k : Nat) (x : It) (h : l[k]? = some x) : okAll (l.drop k) = (okIt x && okAll (l.drop (k + 1))) := by
  obtain ⟨hk, hx⟩ := List.getElem?_eq_some_iff.1 h
  rw [List.drop_eq_getElem_cons hk, hx]; rfl

set_option maxHeartbeats 1000000 in
set_option maxRecDepth 100000 in
theorem clean_c (v : Value) (l : List It) (w : World) (hv : Items v l w) (hl : l.length ≤ 2147483647) (hs : ∀ x ∈ l, x.s.size ≤ 2147483647) (hT : Lib.Utf8Tabs 0 1 w) : Calls Tryd.prog 17 #[v] w (Makes (.bool (okAll l)) w) := by
  obtain ⟨p, c, rfl, hc1, hc2, hcells⟩ := hv
  have HS := Lib.hid hs
  have HT := Lib.hid hT
  clear hs hT
  go_enter Tryd.func17, Tryd.ntmps17
  go_wp2
  go_loopw [2, 7] (fun r i wr => ∃ (k : Nat), k ≤ l.length ∧ i = .int .i64 k ∧ okAll (l.drop k) = okAll l ∧ Below w.heap.size w wr) (fun _ i _ => l.length - (intOf i).toNat)
  case atStart => exact ⟨0, Nat.zero_le _, rfl, rfl, Below.refl _ _⟩
  case round =>
    obtain ⟨k, hk, rfl, hrem, hbel⟩ := hrel
    have HR := Lib.hid hrem
    clear hrem
    by_cases hlt : k < l.length
    · obtain ⟨⟨wd, q, t⟩, hx⟩ : ∃ x, l[k]? = some x := ⟨l[k], List.getElem?_eq_getElem hlt⟩
      have hz := HS.out _ (List.mem_of_getElem? hx)
      have HO := Lib.hid (okAll_drop l k _ hx)
      rcases hcells with rfl | ⟨g, o, rfl, hg, hcells⟩
      · simp at hlt
      obtain ⟨h0, h1, h2⟩ := hcells k _ hx
      have a0 := (hbel.cell (p := ⟨g, o + k * 3, none⟩) hg).trans h0
      have a1 := (hbel.cell (p := ⟨g, o + k * 3 + 1, none⟩) hg).trans h1
      have a2 := (hbel.cell (p := ⟨g, o + k * 3 + 2, none⟩) hg).trans h2
      simp only at a0 a1 a2 hz
      clear h0 h1 h2 hcells hx
      cases wd
      · cases hp : allB prB (L t)
        · have HF := Lib.hid (show okAll l = false by rw [← HR.out, HO.out]; simp [okIt, hp])
          have HP := Lib.hid hp
          clear hp
          go_wp2_with fail
          refine (printable_c t _ (by omega)).mono ?_
          rintro e w1 ⟨rfl, rfl⟩
          rw [HP.out]
          go_wp2_with fail
          go_ret
          exact ⟨ret_bool HF.out.symm, hbel.alloc hbel.size _⟩
        · cases hst : starts (L t)
          · cases hb : allB blankB (L t)
            · have HF := Lib.hid (show okAll (l.drop (k + 1)) = okAll l by rw [← HR.out, HO.out]; simp [okIt, hp, hst, hb])
              have HP := Lib.hid (And.intro hp (And.intro hst hb))
              clear hp hst hb
              go_wp2_with fail
              refine (printable_c t _ (by omega)).mono ?_
              rintro e w1 ⟨rfl, rfl⟩
              rw [HP.out.1]
              go_wp2_with fail
              refine (starts_c t _ (by omega)).mono ?_
              rintro e w1 ⟨rfl, rfl⟩
              rw [HP.out.2.1]
              go_wp2_with fail
              refine (tokenless_c t _ (by omega)).mono ?_
              rintro e w1 ⟨rfl, rfl⟩
              rw [HP.out.2.2]
              go_wp2_with fail
              go_roundw
              case rel => exact ⟨k + 1, by omega, by go_num, HF.out, hbel.alloc hbel.size _⟩
              case measure => simp [intOf]; omega
            · have HF := Lib.hid (show okAll l = false by rw [← HR.out, HO.out]; simp [okIt, hp, hst, hb])
              have HP := Lib.hid (And.intro hp (And.intro hst hb))
              clear hp hst hb
              go_wp2_with fail
              refine (printable_c t _ (by omega)).mono ?_
              rintro e w1 ⟨rfl, rfl⟩
              rw [HP.out.1]
              go_wp2_with fail
              refine (starts_c t _ (by omega)).mono ?_
              rintro e w1 ⟨rfl, rfl⟩
              rw [HP.out.2.1]
              go_wp2_with fail
              refine (tokenless_c t _ (by omega)).mono ?_
              rintro e w1 ⟨rfl, rfl⟩
              rw [HP.out.2.2]
              go_wp2_with fail
              go_ret
              exact ⟨ret_bool HF.out.symm, hbel.alloc hbel.size _⟩
          · have HF := Lib.hid (show okAll l = false by rw [← HR.out, HO.out]; simp [okIt, hp, hst])
            have HP := Lib.hid (And.intro hp hst)
            clear hp hst
            go_wp2_with fail
            refine (printable_c t _ (by omega)).mono ?_
            rintro e w1 ⟨rfl, rfl⟩
            rw [HP.out.1]
            go_wp2_with fail
            refine (starts_c t _ (by omega)).mono ?_
            rintro e w1 ⟨rfl, rfl⟩
            rw [HP.out.2]
            go_wp2_with fail
            go_ret
            exact ⟨ret_bool HF.out.symm, hbel.alloc hbel.size _⟩
      · cases hvd : Lib.validD t.data.toList
        · have HF := Lib.hid (show okAll l = false by rw [← HR.out, HO.out]; simp [okIt, L, hvd])
          have HP := Lib.hid hvd
          clear hvd
          go_wp2_with fail
          refine (Tryd.utf8_ValidString t _ (by omega) (Utf8Tabs_below HT.out (hbel.alloc hbel.size _))).mono ?_
          rintro e w1 ⟨rfl, hb1⟩
          rw [HP.out]
          go_wp2_with fail
          go_ret
          exact ⟨ret_bool HF.out.symm, (hbel.alloc hbel.size _).trans (hb1.mono (by have := hbel.size; simp; omega))⟩
        · have HF := Lib.hid (show okAll (l.drop (k + 1)) = okAll l by rw [← HR.out, HO.out]; simp [okIt, L, hvd])
          have HP := Lib.hid hvd
          clear hvd
          go_wp2_with fail
          refine (Tryd.utf8_ValidString t _ (by omega) (Utf8Tabs_below HT.out (hbel.alloc hbel.size _))).mono ?_
          rintro e w1 ⟨rfl, hb1⟩
          rw [HP.out]
          have b2 := (hbel.alloc hbel.size (.cells #[.bool true, .bool q, .string t] 49)).trans (hb1.mono (by have := hbel.size; simp; omega))
          have s0 : wr.heap.size < (wr.alloc (.cells #[.bool true, .bool q, .string t] 49)).heap.size := by simp
          have d0 := (hb1.cell (p := ⟨wr.heap.size, 0, none⟩) s0).trans (show _ = some (.bool true) by rw [Lib.cell_of_heap (heap_alloc_new wr _)]; rfl)
          go_wp2_with fail
          go_roundw
          case rel => exact ⟨k + 1, by omega, by go_num, HF.out, b2⟩
          case measure => simp [intOf]; omega
    · have HF := Lib.hid (show okAll l = true by rw [← HR.out, List.drop_eq_nil_of_le (by omega)]; rfl)
      go_wp2_with fail
      go_ret
      exact ⟨ret_bool HF.out.symm, hbel⟩
end Go.Proofs.YtlapehcngmiaaaaDoor
