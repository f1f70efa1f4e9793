/-
  CONTRACT OF spec's sorted: each pair is put ahead of the first whose name is not less.
-/
import Derived.Test.YtglffpjobjpmpaaDoorIns
import Derived.BigQuiet
namespace Go.Proofs.YtglffpjobjpmpaaDoor
open Go.RowKit
attribute [local go_sem ↓] Go.wp_at_zero Go.wp_at_succ

def ltP (y x : Pr) : Bool := Op.bytesLess y.n.toList x.n.toList
def insP (l : List Pr) (x : Pr) : List Pr := l.takeWhile (fun y => ltP y x) ++ [x] ++ l.dropWhile (fun y => ltP y x)
def sortP (l : List Pr) : List Pr := l.foldl insP []
theorem insP_len (l : List Pr) (x : Pr) : (insP l x).length = l.length + 1 := by
  have := congrArg List.length (List.takeWhile_append_dropWhile (p := fun y => ltP y x) (l := l))
  rw [List.length_append] at this
  unfold insP
  rw [List.length_append, List.length_append, List.length_cons, List.length_nil]
  omega
theorem sortP_snoc (l : List Pr) (x : Pr) : sortP (l ++ [x]) = insP (sortP l) x := by unfold sortP; rw [List.foldl_append]; rfl
theorem sortP_len (l : List Pr) : (sortP l).length = l.length := by
  have key : ∀ (r acc : List Pr), (r.foldl insP acc).length = acc.length + r.length := by
    intro r
    induction r with
    | nil => intro acc; rfl
    | cons x r ih => intro acc; rw [List.foldl_cons, ih, insP_len, List.length_cons]; omega
  have := key l []
  simpa [sortP] using this
/-- The place. -/
theorem insP_at (l : List Pr) (x : Pr) (i : Nat) (hi : i ≤ l.length) (hall : ∀ y ∈ l.take i, ltP y x = true) (hend : ∀ y, l[i]? = some y → ltP y x = false) : insP l x = l.take i ++ [x] ++ l.drop i := by
  have key : ∀ (l : List Pr) (i : Nat), i ≤ l.length → (∀ y ∈ l.take i, ltP y x = true) → (∀ y, l[i]? = some y → ltP y x = false) → l.takeWhile (fun y => ltP y x) = l.take i ∧ l.dropWhile (fun y => ltP y x) = l.drop i := by
    intro l
    induction l with
    | nil => intro i _ _ _; simp
    | cons y r ih =>
      intro i hi hall hend
      cases i with
      | zero =>
        have := hend y rfl
        simp [this]
      | succ i =>
        have h1 := hall y (by simp)
        obtain ⟨h2, h3⟩ := ih i (by simpa using hi) (fun z hz => hall z (by simp [hz])) (fun z hz => hend z (by simpa using hz))
        simp [h1, h2, h3]
  obtain ⟨h1, h2⟩ := key l i hi hall hend
  unfold insP
  rw [h1, h2]

theorem OwnP.grow {B : Nat} {v : Value} {l : List Pr} {w : World} {n : Nat} {ob : Obj} (h : OwnP B v l w) : OwnP B v l ((w.drewN n).alloc ob) :=
  h.below ((drewN_below w n).trans ((Below.refl w.heap.size (w.drewN n)).alloc (Nat.le_refl _) ob))
theorem Below.drewN_alloc {B n : Nat} {w : World} {ob : Obj} (h : B ≤ w.heap.size) : Below B w ((w.drewN n).alloc ob) :=
  ((drewN_below w n).trans ((Below.refl w.heap.size (w.drewN n)).alloc (Nat.le_refl _) ob)).mono h

set_option maxHeartbeats 4000000 in
set_option maxRecDepth 100000 in
theorem sorted_c (v : Value) (l : List Pr) (w : World) (hv : Prs v l w) (hl : l.length ≤ 1048576) : Calls Tryd.prog 23 #[v] w fun e w' => ∃ v', e = .returned v' ∧ OwnP w.heap.size v' (sortP l) w' ∧ Below w.heap.size w w' := by
  obtain ⟨p, c, rfl, hc1, hc2, hcells⟩ := hv
  go_enter Tryd.func23, Tryd.ntmps23
  go_wp2
  go_loopw [3, 9] (fun ov iv wr => ∃ (k : Nat), iv = .int .i64 k ∧ k ≤ l.length ∧ OwnP w.heap.size ov (sortP (l.take k)) wr ∧ Below w.heap.size w wr) (fun _ iv _ => l.length - (intOf iv).toNat)
  case atStart => exact ⟨0, rfl, Nat.zero_le _, OwnP.nil w, Below.refl _ _⟩
  case round =>
    obtain ⟨k, rfl, hk, hown, hbel⟩ := hrel
    by_cases hlt : k < l.length
    · obtain ⟨x, hx⟩ : ∃ x, l[k]? = some x := ⟨l[k], List.getElem?_eq_getElem hlt⟩
      rcases hcells with rfl | ⟨g, o, rfl, hg, hcells⟩
      · simp at hlt
      obtain ⟨h0, h1⟩ := hcells k x hx
      have a0 := (hbel.cell (p := ⟨g, o + k * 2, none⟩) hg).trans h0
      have a1 := (hbel.cell (p := ⟨g, o + k * 2 + 1, none⟩) hg).trans h1
      have hbs := hbel.size
      have HS := Lib.hid (show sortP (l.take (k + 1)) = insP (sortP (l.take k)) x by rw [List.take_add_one, hx]; exact sortP_snoc _ _)
      have hsl : (sortP (l.take k)).length = k := by rw [sortP_len, List.length_take]; omega
      obtain ⟨S, hS⟩ : ∃ S, S = sortP (l.take k) := ⟨_, rfl⟩
      rw [← hS] at hown hsl HS
      have hsl1 : S.length ≤ k := by omega
      clear h0 h1 hcells hx hS hsl
      obtain ⟨op, oc, rfl, hoc1, hoc2, hog⟩ := hown.shape
      have hal : Below wr.heap.size wr (wr.alloc (.cells #[.string x.n, .string x.v] 31)) := (Below.refl _ _).alloc (Nat.le_refl _) _
      have HO := Lib.hid (hown.below hal)
      have HB := Lib.hid (hbel.trans (hal.mono hbs))
      obtain ⟨W0, hW0⟩ : ∃ W0, W0 = wr.alloc (.cells #[.string x.n, .string x.v] 31) := ⟨_, rfl⟩
      rw [← hW0] at HO HB
      have N0 := Lib.hid (show W0.heap[wr.heap.size]? = some (.cells #[.string x.n, .string x.v] 31 (0, 0)) by rw [hW0]; exact heap_alloc_new wr _)
      have HW0 := Lib.hid hW0
      obtain ⟨H0, hH0⟩ : ∃ H0, H0 = wr.heap.size := ⟨_, rfl⟩
      have HH0 := Lib.hid hH0
      clear hown hbel hW0 hal
      go_wp2_with fail
      rw [← HW0.out]
      have pk : W0.cell? ⟨wr.heap.size, 0, none⟩ = some (.string x.n) := by
        rw [Lib.cell_of_heap N0.out]; rfl
      have pk1 : W0.cell? ⟨wr.heap.size, 1, none⟩ = some (.string x.v) := by
        rw [Lib.cell_of_heap N0.out]; rfl
      go_loopw [6] (fun iv wi => ∃ (i n : Nat), iv = .int .i64 i ∧ i ≤ S.length ∧ (∀ y ∈ S.take i, ltP y x = true) ∧ wi = W0.drewN n) (fun iv _ => S.length - (intOf iv).toNat)
      case atStart => exact ⟨0, 0, rfl, Nat.zero_le _, (fun y hy => by simp at hy), rfl⟩
      case round =>
        obtain ⟨i, n, rfl, hi, hall, rfl⟩ := hrel
        have HA := Lib.hid hall
        clear hall
        by_cases hiS : i < S.length
        · obtain ⟨y, hy⟩ : ∃ y, S[i]? = some y := ⟨S[i], List.getElem?_eq_getElem hiS⟩
          rcases hog with h0 | ⟨og, rfl, hBog, hogl⟩
          · rw [h0] at hiS; simp at hiS
          have hc := HO.out.cells i y hy
          have c0 : W0.cell? ⟨og, i * 2, none⟩ = some (.string y.n) := hc.1
          have HY := Lib.hid hy
          have hdn : decide (i < S.length) = true := decide_eq_true hiS
          cases hcmp : Op.bytesLess y.n.toList x.n.toList
          · have HEND := Lib.hid (show ∀ z, S[i]? = some z → ltP z x = false from fun z hz => by rw [hy] at hz; cases hz; exact hcmp)
            clear hc hy HY
            go_wp2_with fail
            go_quiet (fail)
            go_wp2_with fail
            refine (insert_c w.heap.size _ S i W0.heap.size x _ (OwnP.grow HO.out) (by omega) hi (heap_alloc_new _ _) (fun e => by have := (HO.out.1.lt _ e).2; omega)).mono ?_
            rintro e w3 ⟨v', rfl, hown3, hb3⟩
            have B3 : Below w.heap.size w w3 := (HB.out.trans (Below.drewN_alloc HO.out.2)).trans hb3
            go_wp2_with fail
            go_roundw
            case rel => exact ⟨k + 1, by go_num, by omega, by rw [HS.out, insP_at S x i hi HA.out HEND.out]; exact hown3, B3⟩
            case measure => simp [intOf]; omega
          · have HNX := Lib.hid (show ∀ z ∈ S.take (i + 1), ltP z x = true from fun z hz => by
              rw [List.take_add_one, hy] at hz
              rcases List.mem_append.1 hz with hz | hz
              · exact HA.out z hz
              · simp at hz; rw [hz]; exact hcmp)
            clear hc hy HY
            go_wp2_with fail
            go_quiet (fail)
            go_wp2_with fail
            go_roundw
            case rel => exact ⟨i + 1, n + nq, by go_num, by omega, HNX.out, rfl⟩
            case measure => simp [intOf]; omega
        · have hdn : decide (i < S.length) = false := decide_eq_false hiS
          have HEND := Lib.hid (show ∀ z, S[i]? = some z → ltP z x = false from fun z hz => by rw [List.getElem?_eq_none (by omega)] at hz; cases hz)
          go_wp2_with fail
          go_quiet (fail)
          go_wp2_with fail
          refine (insert_c w.heap.size _ S i W0.heap.size x _ (OwnP.grow HO.out) (by omega) hi (heap_alloc_new _ _) (fun e => by have := (HO.out.1.lt _ e).2; omega)).mono ?_
          rintro e w3 ⟨v', rfl, hown3, hb3⟩
          have B3 : Below w.heap.size w w3 := (HB.out.trans (Below.drewN_alloc HO.out.2)).trans hb3
          go_wp2_with fail
          go_roundw
          case rel => exact ⟨k + 1, by go_num, by omega, by rw [HS.out, insP_at S x i hi HA.out HEND.out]; exact hown3, B3⟩
          case measure => simp [intOf]; omega
    · have HE := Lib.hid (show sortP (l.take k) = sortP l by rw [List.take_of_length_le (by omega)])
      rw [HE.out] at hown
      go_wp2_with fail
      go_ret
      exact ⟨_, rfl, hown, hbel⟩
end Go.Proofs.YtglffpjobjpmpaaDoor
