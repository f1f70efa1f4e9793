/-
  CONTRACT OF slices.Insert AT A ROW OF PAIRS of the call's own, of one pair.
-/
import Derived.Test.YtglffpjobjpmpaaDoorPair
import Derived.Laws.CopyRow
import Derived.Laws.AppendOwn
import Derived.Lib.Overlaps
import Derived.Lib.AppendZerosOnto
import Derived.Lib.Walk
import Derived.Lib.Builder
import Derived.Lib.SliceRun
import Derived.Lib.JoinLaws
import Derived.Laws.Externs
import Derived.Shelf.Spec.SlicesInsert
import Derived.BigRegion
import Derived.Deep.RegionLaw
import Derived.Deep.DrawnRows
import Derived.IntWalk
namespace Go.Proofs.YtglffpjobjpmpaaDoor
open Go.RowKit

/-- The cells of pairs. -/
def prC (x : Pr) : List Value := [.string x.n, .string x.v]
def prCs (l : List Pr) : List Value := l.flatMap prC
theorem prCs_len (l : List Pr) : (prCs l).length = l.length * 2 := by
  unfold prCs
  induction l with
  | nil => rfl
  | cons x r ih => rw [List.flatMap_cons, List.length_append, ih, List.length_cons]; simp [prC]; omega
theorem prCs_append (a b : List Pr) : prCs (a ++ b) = prCs a ++ prCs b := by unfold prCs; simp
theorem prCs_take (l : List Pr) (i : Nat) : prCs (l.take i) = (prCs l).take (i * 2) := by
  induction l generalizing i with
  | nil => simp [prCs]
  | cons x r ih =>
    cases i with
    | zero => simp [prCs]
    | succ i =>
      rw [List.take_succ_cons, show (i + 1) * 2 = i * 2 + 2 by omega]
      show prC x ++ prCs (r.take i) = (prC x ++ prCs r).take (i * 2 + 2)
      rw [ih, show i * 2 + 2 = (prC x).length + i * 2 by simp [prC]; omega, List.take_length_add_append]
theorem prCs_drop (l : List Pr) (i : Nat) : prCs (l.drop i) = (prCs l).drop (i * 2) := by
  have h1 := prCs_append (l.take i) (l.drop i)
  rw [List.take_append_drop, prCs_take] at h1
  have h2 : (prCs l).take (i * 2) ++ prCs (l.drop i) = (prCs l).take (i * 2) ++ (prCs l).drop (i * 2) := by rw [List.take_append_drop]; exact h1.symm
  exact List.append_cancel_left h2
theorem prCs_one (l : List Pr) : ∀ u ∈ prCs l, u.oneCell' = true := by
  intro u hu
  obtain ⟨x, _, hx⟩ := List.mem_flatMap.1 hu
  simp [prC] at hx
  rcases hx with rfl | rfl <;> rfl

/-- 'copy' into a row, of elements of two cells. -/
theorem run_copy_row2 {P : Program} (w : World) (dT sT ty elem : TypeId) (g o dLen dCap : Nat) (a : Addr) (sLen sCap : Nat) (cur : Array Value) (t : TypeId) (cs : List Value)
    (hu : P.underlying dT = some (.slice elem)) (hs : (P.info? elem).map (·.size) = some 2)
    (hg : w.heap[g]? = some (.cells cur t (0, 0))) (hn : cs.length = Nat.min sLen dLen * 2)
    (hsrc : ∀ j v, cs[j]? = some v → w.cell? (a.add j) = some v) (hfit : o + cs.length ≤ cur.size) (h1 : ∀ v ∈ cs, v.oneCell' = true) :
    (Builtin.copy_ #[dT, sT] ty #[.slice (some ⟨g, o, none⟩) dLen dCap, .slice (some a) sLen sCap]).run P w =
      .ok (goInt (Nat.min sLen dLen)) (w.setRow g (cur.toList.take o ++ cs ++ cur.toList.drop (o + cs.length)).toArray) := by
  have hl := run_loadCells_list (P := P) w a cs hsrc
  have hst := run_storeCells_at P g o t cs 0 cur w hg (by simpa using hfit) h1
  cases hq : P.info? elem with
  | none => simp [hq] at hs
  | some i =>
    have hi : i.size = 2 := by simpa [hq] using hs
    simp [Builtin.copy_, run_underlying hu, Builtin.lenOf, Builtin.firstCells, sizeOf, typeInfo, hq, hi, ← hn, hl, hst]

/-- A row of pairs of the call's own. -/
def OwnP (B : Nat) (v : Value) (l : List Pr) (w : World) : Prop := w.ownsRow B 31 2 v l.length (prCs l) ∧ B ≤ w.heap.size
theorem OwnP.nil (w : World) : OwnP w.heap.size (.slice none 0 0) [] w := ⟨World.ownsRow_nil _ _ _ _, Nat.le_refl _⟩
theorem pairInfo : (Tryd.prog.info? 31).map (fun i => (i.zero, i.size, i.bytes)) = some (some (.agg #[.string ⟨#[]⟩, .string ⟨#[]⟩]), 2, 32) := by kernel_rfl
theorem pairSize : (Tryd.prog.info? 31).map (·.size) = some 2 := by kernel_rfl
theorem pair_parts : ∃ i0, Tryd.prog.info? 31 = some i0 ∧ i0.zero = some (.agg #[.string ⟨#[]⟩, .string ⟨#[]⟩]) ∧ i0.size = 2 ∧ i0.bytes = 32 := by
  obtain ⟨i0, hi, hj⟩ := Option.map_eq_some_iff.1 pairInfo
  simp only [Prod.mk.injEq] at hj
  exact ⟨i0, hi, hj⟩
theorem pairSizeOf (w : World) : (Go.sizeOf 31).run Tryd.prog w = .ok 2 w := by kernel_rfl

set_option maxHeartbeats 4000000 in
set_option maxRecDepth 100000 in
/-- At the end. -/
theorem insert_end (B : Nat) (v : Value) (l : List Pr) (vb : Nat) (x : Pr) (w : World) (hown : OwnP B v l w) (hlen : l.length ≤ 1048576) (hv : w.heap[vb]? = some (.cells #[.string x.n, .string x.v] 31 (0, 0))) :
    Calls Tryd.prog 38 #[v, .int .i64 (l.length : Int), .slice (some ⟨vb, 0, none⟩) 1 1] w fun e w' => ∃ v', e = .returned v' ∧ OwnP B v' (l ++ [x]) w' ∧ Below B w w' := by
  obtain ⟨i0, hi, hz0, hz1, hz2⟩ := pair_parts
  have HO := Lib.hid hown
  have HV := Lib.hid hv
  have HL := Lib.hid hlen
  rcases hown.1.2 with ⟨rfl, h0⟩ | ⟨g, cap, cur, rfl, hBg, hcur, hnc, hcm, hcs, htake⟩
  · obtain rfl : l = [] := List.eq_nil_of_length_eq_zero h0
    clear hown hv h0
    go_enter Tryd.func38, Tryd.ntmps38
    go_wp2_with (at_builtin; refine wpList_append_own _ rfl _ _ 28 rfl B 31 i0 _ 2 32 Tryd.underlying28 hi hz0 hz1 hz2 rfl (by decide) _ _ _ rfl HO.out.1 ⟨vb, 0, none⟩ 1 1 (prC x) rfl rfl ?c1 ?c2 ?c3 ?c4 ?c5 ?_)
    case c1 =>
      intro j u hj
      have e : ((⟨vb, 0, none⟩ : Addr).add j) = ⟨vb, j, none⟩ := by simp only [Addr.add]; split <;> simp_all
      rw [e, Lib.cell_of_heap HV.out, ← Array.getElem?_toList]
      exact hj
    case c2 => intro u hu; simp [prC] at hu; rcases hu with rfl | rfl <;> rfl
    case c3 => unfold maxLen; simp
    case c4 => simp
    case c5 => exact HO.out.2
    intro v2 w2 hown2 hgrow2 _
    go_wp2_with fail
    go_ret
    refine ⟨v2, rfl, ⟨?_, by have := hgrow2.size; have := HO.out.2; omega⟩, (Below.refl B w).grown hgrow2 HO.out.2 (fun k hk => (HO.out.1.lt k hk).1)⟩
    simpa [prCs] using hown2
  · clear hown hv hcur hcs htake
    unfold maxLen at hcm
    by_cases hcl : cap = l.length
    · go_enter Tryd.func38, Tryd.ntmps38
      go_wp2_with (at_builtin; refine wpList_append_own _ rfl _ _ 28 rfl B 31 i0 _ 2 32 Tryd.underlying28 hi hz0 hz1 hz2 rfl (by decide) _ _ _ rfl HO.out.1 ⟨vb, 0, none⟩ 1 1 (prC x) rfl rfl ?c1 ?c2 ?c3 ?c4 ?c5 ?_)
      case c1 =>
        intro j u hj
        have e : ((⟨vb, 0, none⟩ : Addr).add j) = ⟨vb, j, none⟩ := by simp only [Addr.add]; split <;> simp_all
        rw [e, Lib.cell_of_heap HV.out, ← Array.getElem?_toList]
        exact hj
      case c2 => intro u hu; simp [prC] at hu; rcases hu with rfl | rfl <;> rfl
      case c3 => unfold maxLen; have := HL.out; omega
      case c4 => have := HL.out; omega
      case c5 => exact HO.out.2
      intro v2 w2 hown2 hgrow2 _
      go_wp2_with fail
      go_ret
      refine ⟨v2, rfl, ⟨?_, by have := hgrow2.size; have := HO.out.2; omega⟩, (Below.refl B w).grown hgrow2 HO.out.2 (fun k hk => (HO.out.1.lt k hk).1)⟩
      rw [prCs_append, List.length_append]
      simpa [prCs] using hown2
    · go_enter Tryd.func38, Tryd.ntmps38
      go_wp2_with (at_builtin; refine wpList_append_own _ rfl _ _ 28 rfl B 31 i0 _ 2 32 Tryd.underlying28 hi hz0 hz1 hz2 rfl (by decide) _ _ _ rfl HO.out.1 ⟨vb, 0, none⟩ 1 1 (prC x) rfl rfl ?c1 ?c2 ?c3 ?c4 ?c5 ?_)
      case c1 =>
        intro j u hj
        have e : ((⟨vb, 0, none⟩ : Addr).add j) = ⟨vb, j, none⟩ := by simp only [Addr.add]; split <;> simp_all
        rw [e, Lib.cell_of_heap HV.out, ← Array.getElem?_toList]
        exact hj
      case c2 => intro u hu; simp [prC] at hu; rcases hu with rfl | rfl <;> rfl
      case c3 => unfold maxLen; have := HL.out; omega
      case c4 => have := HL.out; omega
      case c5 => exact HO.out.2
      intro v2 w2 hown2 hgrow2 _
      go_wp2_with fail
      go_ret
      refine ⟨v2, rfl, ⟨?_, by have := hgrow2.size; have := HO.out.2; omega⟩, (Below.refl B w).grown hgrow2 HO.out.2 (fun k hk => (HO.out.1.lt k hk).1)⟩
      rw [prCs_append, List.length_append]
      simpa [prCs] using hown2

theorem fills_lt' {g : Nat} {w : World} {ob : Obj} (h : w.heap[g]? = some ob) : g < w.heap.size := by
  rcases Nat.lt_or_ge g w.heap.size with h1 | h1
  · exact h1
  · rw [Array.getElem?_eq_none h1] at h; cases h
theorem off_add (g o j : Nat) : ((⟨g, o, none⟩ : Addr).add j) = ⟨g, o + j, none⟩ := by simp only [Addr.add]; split <;> simp_all
theorem shape_of {w : World} {g : Nat} {cs : Array Value} {T : TypeId} {fr : Nat × Nat} (h : w.heap[g]? = some (.cells cs T fr)) : w.shape? g = some (T, cs.size) := by simp [World.shape?, h]

/-- What the two copies make of the row's cells. -/
theorem shift_cells (cur : Array Value) (l : List Pr) (x : Pr) (i n cap : Nat) (hn : l.length = n) (hi : i < n) (hroom : n + 1 ≤ cap) (hcs : cur.size = cap * 2) (htake : cur.toList.take (n * 2) = prCs l)
    (cur1 cur2 : Array Value) (h1 : cur1 = (cur.toList.take ((i + 1) * 2) ++ prCs (l.drop i) ++ cur.toList.drop ((i + 1) * 2 + (prCs (l.drop i)).length)).toArray)
    (h2 : cur2 = (cur1.toList.take (i * 2) ++ prC x ++ cur1.toList.drop (i * 2 + (prC x).length)).toArray) :
    cur1.size = cap * 2 ∧ cur2.size = cap * 2 ∧ cur2.toList.take ((n + 1) * 2) = prCs (l.take i ++ [x] ++ l.drop i) := by
  have hdl : (prCs (l.drop i)).length = (n - i) * 2 := by rw [prCs_len, List.length_drop, hn]
  have hxl : (prC x).length = 2 := rfl
  have e1 : cur1.toList = cur.toList.take ((i + 1) * 2) ++ (prCs (l.drop i) ++ cur.toList.drop ((n + 1) * 2)) := by
    rw [h1, hdl, show (i + 1) * 2 + (n - i) * 2 = (n + 1) * 2 by omega, List.append_assoc]
  have hl1 : (cur.toList.take ((i + 1) * 2)).length = (i + 1) * 2 := by rw [List.length_take, Array.length_toList]; omega
  have t1 : cur1.toList.take (i * 2) = prCs (l.take i) := by
    rw [e1, List.take_append_of_le_length (by rw [hl1]; omega), List.take_take, Nat.min_eq_left (by omega), prCs_take, ← htake, List.take_take, Nat.min_eq_left (by omega)]
  have d1 : cur1.toList.drop (i * 2 + 2) = prCs (l.drop i) ++ cur.toList.drop ((n + 1) * 2) := by
    rw [e1, show i * 2 + 2 = (cur.toList.take ((i + 1) * 2)).length by rw [hl1]; omega, List.drop_left]
  have s1 : cur1.size = cap * 2 := by
    rw [← Array.length_toList, e1, List.length_append, List.length_append, hl1, hdl, List.length_drop, Array.length_toList]
    omega
  have e2 : cur2.toList = prCs (l.take i) ++ (prC x ++ (prCs (l.drop i) ++ cur.toList.drop ((n + 1) * 2))) := by
    rw [h2, hxl, t1, d1]
    simp
  have hti : (prCs (l.take i)).length = i * 2 := by rw [prCs_len, List.length_take]; omega
  refine ⟨s1, ?_, ?_⟩
  · rw [← Array.length_toList, e2, List.length_append, List.length_append, List.length_append, hti, hdl, hxl, List.length_drop, Array.length_toList]
    omega
  · have e3 : prCs (l.take i ++ [x] ++ l.drop i) = prCs (l.take i) ++ (prC x ++ prCs (l.drop i)) := by
      rw [prCs_append, prCs_append]
      simp [prCs]
    rw [e2, e3]
    have hlen : (prCs (l.take i) ++ (prC x ++ prCs (l.drop i))).length = (n + 1) * 2 := by
      rw [List.length_append, List.length_append, hti, hdl, hxl]; omega
    have e4 : prCs (l.take i) ++ (prC x ++ (prCs (l.drop i) ++ cur.toList.drop ((n + 1) * 2))) = (prCs (l.take i) ++ (prC x ++ prCs (l.drop i))) ++ cur.toList.drop ((n + 1) * 2) := by simp
    rw [e4, ← hlen, List.take_left]

set_option maxHeartbeats 4000000 in
set_option maxRecDepth 100000 in
/-- Ahead of the end, with room. -/
theorem insert_shift (B g cap : Nat) (cur : Array Value) (l : List Pr) (i vb : Nat) (x : Pr) (w : World) (hown : OwnP B (.slice (some ⟨g, 0, none⟩) l.length cap) l w) (hlen : l.length ≤ 1048576) (hi : i < l.length) (hBg : B ≤ g) (hg : w.heap[g]? = some (.cells cur 31 (0, 0))) (hroom : l.length + 1 ≤ cap) (hcm : cap ≤ maxLen) (hcs : cur.size = cap * 2)
    (htake : cur.toList.take (l.length * 2) = prCs l) (hv : w.heap[vb]? = some (.cells #[.string x.n, .string x.v] 31 (0, 0))) (hne : vb ≠ g) :
    Calls Tryd.prog 38 #[.slice (some ⟨g, 0, none⟩) l.length cap, .int .i64 (i : Int), .slice (some ⟨vb, 0, none⟩) 1 1] w fun e w' => ∃ v', e = .returned v' ∧ OwnP B v' (l.take i ++ [x] ++ l.drop i) w' ∧ Below B w w' := by
  obtain ⟨n, hn⟩ : ∃ n, l.length = n := ⟨_, rfl⟩
  rw [hn] at hown hlen hi hroom htake ⊢
  have hdl : (prCs (l.drop i)).length = (n - i) * 2 := by rw [prCs_len, List.length_drop, hn]
  obtain ⟨cur1, h1⟩ : ∃ cur1, cur1 = (cur.toList.take ((i + 1) * 2) ++ prCs (l.drop i) ++ cur.toList.drop ((i + 1) * 2 + (prCs (l.drop i)).length)).toArray := ⟨_, rfl⟩
  obtain ⟨cur2, h2⟩ : ∃ cur2, cur2 = (cur1.toList.take (i * 2) ++ prC x ++ cur1.toList.drop (i * 2 + (prC x).length)).toArray := ⟨_, rfl⟩
  obtain ⟨s1, s2, t2⟩ := shift_cells cur l x i n cap hn hi hroom hcs htake cur1 cur2 h1 h2
  have hz2 : ¬ ((i : Int) = (n : Int)) := by omega
  have hov : ∀ lb cb, (callFunc 49 #[.slice (some ⟨vb, 0, none⟩) 1 1, .slice (some ⟨g, (i + 1) * 2, none⟩) lb cb]).run Tryd.prog w = .ok (.value (.bool false)) w := fun lb cb => by
    rw [run_callFunc_extern Tryd.func49 (by kernel_rfl) (by kernel_rfl) (by kernel_rfl) (e := Extern.SlicesOverlaps.overlaps #[28, 28] #[4]) (by kernel_rfl),
      Lib.run_overlaps_apart w 28 4 31 Tryd.underlying28 2 pairSizeOf ⟨vb, 0, none⟩ ⟨g, (i + 1) * 2, none⟩ 1 1 lb cb hne 31 31 2 cur.size (shape_of hv) (shape_of hg) (by omega) (Lib.frozen_of_heap hv 0) (Lib.frozen_of_heap hv 2)]
    rfl
  have hgd : w.drew.heap[g]? = some (.cells cur 31 (0, 0)) := hg
  have hcp1 : ∀ ty dc sc, (Builtin.copy_ #[28, 28] ty #[.slice (some ⟨g, (i + 1) * 2, none⟩) (n + 1 - (i + 1)) dc, .slice (some ⟨g, i * 2, none⟩) (n + 1 - i) sc]).run Tryd.prog w.drew = .ok (goInt ((n + 1 - i).min (n + 1 - (i + 1)))) (w.drew.setRow g cur1) := fun ty dc sc => by
    rw [h1]
    refine run_copy_row2 w.drew _ _ ty 31 g ((i + 1) * 2) (n + 1 - (i + 1)) dc ⟨g, i * 2, none⟩ (n + 1 - i) sc cur 31 (prCs (l.drop i)) Tryd.underlying28 pairSize hgd (by rw [hdl]; simp only [Nat.min_def]; split <;> omega) ?_ (by rw [hdl, hcs]; omega) (prCs_one _)
    intro j v hj
    rw [off_add, Lib.cell_of_heap hgd, ← Array.getElem?_toList]
    rw [prCs_drop, List.getElem?_drop, ← htake] at hj
    have hjn : i * 2 + j < n * 2 := by
      rcases Nat.lt_or_ge (i * 2 + j) (n * 2) with h | h
      · exact h
      · rw [List.getElem?_eq_none (by rw [List.length_take]; omega)] at hj; cases hj
    rwa [List.getElem?_take_of_lt hjn] at hj
  have hg1 : (w.drew.setRow g cur1).heap[g]? = some (.cells cur1 31 (0, 0)) := setRow_heap _ _ _ _ _ _ hgd
  have hv1 : (w.drew.setRow g cur1).heap[vb]? = some (.cells #[.string x.n, .string x.v] 31 (0, 0)) := by rw [setRow_other _ _ _ _ hne]; exact hv
  have hcp2 : ∀ ty dc, (Builtin.copy_ #[28, 28] ty #[.slice (some ⟨g, i * 2, none⟩) (n + 1 - i) dc, .slice (some ⟨vb, 0, none⟩) 1 1]).run Tryd.prog (w.drew.setRow g cur1) = .ok (goInt (Nat.min 1 (n + 1 - i))) ((w.drew.setRow g cur1).setRow g cur2) := fun ty dc => by
    rw [h2]
    refine run_copy_row2 _ _ _ ty 31 g (i * 2) (n + 1 - i) dc ⟨vb, 0, none⟩ 1 1 cur1 31 (prC x) Tryd.underlying28 pairSize hg1 (by show 2 = _; simp only [Nat.min_def]; split <;> omega) ?_ (by show i * 2 + 2 ≤ _; rw [s1]; omega) ?_
    · intro j v hj
      rw [off_add, Nat.zero_add, Lib.cell_of_heap hv1, ← Array.getElem?_toList]
      exact hj
    · intro u hu; simp [prC] at hu; rcases hu with rfl | rfl <;> rfl
  have hg2 : ((w.drew.setRow g cur1).setRow g cur2).heap[g]? = some (.cells cur2 31 (0, 0)) := setRow_heap _ _ _ _ _ _ hg1
  have HG2 := Lib.hid hg2
  have HT2 := Lib.hid t2
  have HO := Lib.hid hown
  have HN := Lib.hid hn
  have hb2 : ¬ (cap = i + 1) := by omega
  have hb4 : ¬ (cap = i) := by omega
  have hmx : cap ≤ 9223372036854775807 := by unfold maxLen at hcm; omega
  clear h1 h2 hg hgd hv hg1 hv1 hg2 t2 hown hn htake hdl
  go_enter Tryd.func38, Tryd.ntmps38
  have hw1 : IntKind.i64.wrap ((i : Int) + 1) = (i : Int) + 1 := by rw [IntKind.wrap_i64]; omega
  have hb1 : (0 : Int) ≤ (i : Int) + 1 := by omega
  have hin : i ≤ n := by omega
  have htn : ((i : Int) + 1).toNat = i + 1 := by omega
  have hb3 : (i : Int) ≤ (n : Int) + 1 := by omega
  go_wp2_with (simp only [hov])
  go_region_law (refine step_copy_runI rfl _ _ 28 28 rfl (.slice (some ⟨g, (i + 1) * 2, none⟩) (n + 1 - (i + 1)) (cap - (i + 1))) (.slice (some ⟨g, i * 2, none⟩) (n + 1 - i) (cap - i)) (by simp [Act.eval, Act.put]) (by simp [Act.eval, Act.put]) (hcp1 _ _ _) ?_)
  go_wp2_with (at_builtin; refine wpList_copy_runI _ rfl _ _ 28 28 rfl _ _ rfl rfl (hcp2 _ _) ?_)
  go_ret
  have hl' : (l.take i ++ [x] ++ l.drop i).length = n + 1 := by
    have := HN.out
    rw [List.length_append, List.length_append, List.length_take, List.length_drop, List.length_cons, List.length_nil]
    omega
  refine ⟨_, rfl, ⟨⟨prCs_len _, .inr ⟨g, cap, cur2, by rw [hl']; rfl, hBg, HG2.out, by omega, hcm, s2, by rw [hl']; exact HT2.out⟩⟩, ?_⟩, ?_⟩
  · rw [setRow_size, setRow_size]; exact HO.out.2
  · refine ⟨rfl, rfl, rfl, by rw [setRow_size, setRow_size]; exact Nat.le_refl _, fun k hk => ?_⟩
    have hkg : k ≠ g := by omega
    rw [setRow_other _ _ _ _ hkg, setRow_other _ _ _ _ hkg]; rfl

/-- What the append and the two copies make of the new row's cells. -/
theorem grow_cells (row : Array Value) (l : List Pr) (x : Pr) (i n G : Nat) (hn : l.length = n) (hi : i < n) (hroom : n + 1 ≤ G) (hcs : row.size = G * 2) (htake : row.toList.take (i * 2) = prCs (l.take i))
    (row2 row3 : Array Value) (h2 : row2 = (row.toList.take (i * 2) ++ prC x ++ row.toList.drop (i * 2 + (prC x).length)).toArray)
    (h3 : row3 = (row2.toList.take ((i + 1) * 2) ++ prCs (l.drop i) ++ row2.toList.drop ((i + 1) * 2 + (prCs (l.drop i)).length)).toArray) :
    row2.size = G * 2 ∧ row3.size = G * 2 ∧ row3.toList.take ((n + 1) * 2) = prCs (l.take i ++ [x] ++ l.drop i) := by
  have hdl : (prCs (l.drop i)).length = (n - i) * 2 := by rw [prCs_len, List.length_drop, hn]
  have hxl : (prC x).length = 2 := rfl
  have hti : (prCs (l.take i)).length = i * 2 := by rw [prCs_len, List.length_take]; omega
  have e2 : row2.toList = (prCs (l.take i) ++ prC x) ++ row.toList.drop (i * 2 + 2) := by rw [h2, hxl, htake]
  have hpl : (prCs (l.take i) ++ prC x).length = (i + 1) * 2 := by rw [List.length_append, hti, hxl]; omega
  have s2 : row2.size = G * 2 := by
    rw [← Array.length_toList, e2, List.length_append, hpl, List.length_drop, Array.length_toList]
    omega
  have t2 : row2.toList.take ((i + 1) * 2) = prCs (l.take i) ++ prC x := by rw [e2, ← hpl, List.take_left]
  have e3 : row3.toList = ((prCs (l.take i) ++ prC x) ++ prCs (l.drop i)) ++ row2.toList.drop ((n + 1) * 2) := by
    rw [h3, t2, hdl, show (i + 1) * 2 + (n - i) * 2 = (n + 1) * 2 by omega]
  have hal : ((prCs (l.take i) ++ prC x) ++ prCs (l.drop i)).length = (n + 1) * 2 := by rw [List.length_append, hpl, hdl]; omega
  refine ⟨s2, ?_, ?_⟩
  · rw [← Array.length_toList, e3, List.length_append, hal, List.length_drop, Array.length_toList]
    omega
  · rw [e3, ← hal, List.take_left, prCs_append, prCs_append]
    simp [prCs]

set_option maxHeartbeats 4000000 in
set_option maxRecDepth 100000 in
/-- Ahead of the end, without room. -/
theorem insert_grow (B g cap : Nat) (cur : Array Value) (l : List Pr) (i vb : Nat) (x : Pr) (w : World) (hown : OwnP B (.slice (some ⟨g, 0, none⟩) l.length cap) l w) (hlen : l.length ≤ 1048576) (hi : i < l.length) (hg : w.heap[g]? = some (.cells cur 31 (0, 0))) (hnc : l.length ≤ cap) (hroom : cap < l.length + 1)
    (htake : cur.toList.take (l.length * 2) = prCs l) (hv : w.heap[vb]? = some (.cells #[.string x.n, .string x.v] 31 (0, 0))) :
    Calls Tryd.prog 38 #[.slice (some ⟨g, 0, none⟩) l.length cap, .int .i64 (i : Int), .slice (some ⟨vb, 0, none⟩) 1 1] w fun e w' => ∃ v', e = .returned v' ∧ OwnP B v' (l.take i ++ [x] ++ l.drop i) w' ∧ Below B w w' := by
  obtain ⟨n, hn⟩ : ∃ n, l.length = n := ⟨_, rfl⟩
  rw [hn] at hown hlen hi hroom htake hnc ⊢
  have hdl : (prCs (l.drop i)).length = (n - i) * 2 := by rw [prCs_len, List.length_drop, hn]
  have hgl : g < w.heap.size := fills_lt' hg
  have hvl : vb < w.heap.size := fills_lt' hv
  obtain ⟨i0, hi0, hz0, hz1, hz2⟩ := pair_parts
  have hcell : ∀ j u, (prCs l)[j]? = some u → w.cell? ⟨g, j, none⟩ = some u := fun j u hj => by
    rw [Lib.cell_of_heap hg, ← Array.getElem?_toList]
    rw [← htake] at hj
    have hjn : j < n * 2 := by
      rcases Nat.lt_or_ge j (n * 2) with h | h
      · exact h
      · rw [List.getElem?_eq_none (by rw [List.length_take]; omega)] at hj; cases hj
    rwa [List.getElem?_take_of_lt hjn] at hj
  have hold : (Builtin.firstCells i0.size i (.slice (some ⟨g, 0, none⟩) i cap)).run Tryd.prog w.drew = .ok (prCs (l.take i)).toArray w.drew := by
    rw [hz1]
    refine run_firstCells_some w.drew 2 i ⟨g, 0, none⟩ i cap (prCs (l.take i)) (by rw [prCs_len, List.length_take]; omega) fun j u hj => ?_
    rw [off_add, Nat.zero_add]
    rw [prCs_take, List.getElem?_take] at hj
    split at hj
    · exact hcell j u hj
    · cases hj
  obtain ⟨G, hG⟩ : ∃ G, G = grownCap w (n + 1) cap 31 := ⟨_, rfl⟩
  have hGn : n + 1 ≤ G := by rw [hG]; exact grownCap_ge w _ _ _
  have hGm : G ≤ maxLen := by rw [hG]; exact grownCap_le_maxLen w _ _ _ (by unfold maxLen; omega)
  have hGm' : G ≤ 9223372036854775807 := by unfold maxLen at hGm; omega
  obtain ⟨row, hrow⟩ : ∃ row : Array Value, row = (prCs (l.take i)).toArray ++ Builtin.zeroCells (Value.agg #[.string ⟨#[]⟩, .string ⟨#[]⟩]).cells (n + 1 - i) ++ Builtin.zeroCells (Value.agg #[.string ⟨#[]⟩, .string ⟨#[]⟩]).cells (G - (n + 1)) := ⟨_, rfl⟩
  have hrz : ∀ ty, (Builtin.append_ #[28, 3] ty #[.slice (some ⟨g, 0, none⟩) i cap, .int .i64 ((n : Int) + 1 - (i : Int))]).run Tryd.prog w = .ok (.slice (some ⟨w.heap.size, 0, none⟩) (n + 1) G) (w.drew.alloc (.cells row 31)) := fun ty => by
    have h := Lib.run_append_grow_zeros w 28 3 ty 31 i0 _ .i64 .i64 Tryd.underlying28 Tryd.underlying3 hi0 hz0 (some ⟨g, 0, none⟩) i cap (prCs (l.take i)) hold (n + 1 - i) (by omega) (by omega) (by omega) (by omega) (by rw [hz2]; omega) (by rw [hz2, show i + (n + 1 - i) = n + 1 by omega]; exact growslice_fits hroom (by omega))
    rw [show i + (n + 1 - i) = n + 1 by omega, ← hG, ← hrow, show ((n + 1 - i : Nat) : Int) = (n : Int) + 1 - (i : Int) by omega] at h
    exact h
  have hti : (prCs (l.take i)).length = i * 2 := by rw [prCs_len, List.length_take]; omega
  have hrs : row.size = G * 2 := by
    rw [hrow]
    simp [Builtin.zeroCells, Value.cells, hti]
    omega
  have hrt : row.toList.take (i * 2) = prCs (l.take i) := by
    rw [hrow, Array.toList_append, Array.toList_append, List.append_assoc, ← hti]
    exact List.take_left
  obtain ⟨row2, h2⟩ : ∃ row2, row2 = (row.toList.take (i * 2) ++ prC x ++ row.toList.drop (i * 2 + (prC x).length)).toArray := ⟨_, rfl⟩
  obtain ⟨row3, h3⟩ : ∃ row3, row3 = (row2.toList.take ((i + 1) * 2) ++ prCs (l.drop i) ++ row2.toList.drop ((i + 1) * 2 + (prCs (l.drop i)).length)).toArray := ⟨_, rfl⟩
  obtain ⟨s2, s3, t3⟩ := grow_cells row l x i n G hn hi hGn hrs hrt row2 row3 h2 h3
  have hcpA : ∀ (W : World), W.heap[w.heap.size]? = some (.cells row 31 (0, 0)) → W.heap[vb]? = some (.cells #[.string x.n, .string x.v] 31 (0, 0)) → ∀ ty dc,
      (Builtin.copy_ #[28, 28] ty #[.slice (some ⟨w.heap.size, i * 2, none⟩) (n + 1 - i) dc, .slice (some ⟨vb, 0, none⟩) 1 1]).run Tryd.prog W = .ok (goInt (Nat.min 1 (n + 1 - i))) (W.setRow w.heap.size row2) := fun W hW hvW ty dc => by
    rw [h2]
    refine run_copy_row2 _ _ _ ty 31 w.heap.size (i * 2) (n + 1 - i) dc ⟨vb, 0, none⟩ 1 1 row 31 (prC x) Tryd.underlying28 pairSize hW (by show 2 = _; simp only [Nat.min_def]; split <;> omega) ?_ (by show i * 2 + 2 ≤ _; rw [hrs]; omega) ?_
    · intro j v hj
      rw [off_add, Nat.zero_add, Lib.cell_of_heap hvW, ← Array.getElem?_toList]
      exact hj
    · intro u hu; simp [prC] at hu; rcases hu with rfl | rfl <;> rfl
  have hcpB : ∀ (W : World), W.heap[w.heap.size]? = some (.cells row2 31 (0, 0)) → W.heap[g]? = some (.cells cur 31 (0, 0)) → ∀ ty dc sc,
      (Builtin.copy_ #[28, 28] ty #[.slice (some ⟨w.heap.size, (i + 1) * 2, none⟩) (n + 1 - (i + 1)) dc, .slice (some ⟨g, i * 2, none⟩) (n - i) sc]).run Tryd.prog W = .ok (goInt (Nat.min (n - i) (n + 1 - (i + 1)))) (W.setRow w.heap.size row3) := fun W hW hgW ty dc sc => by
    rw [h3]
    refine run_copy_row2 _ _ _ ty 31 w.heap.size ((i + 1) * 2) (n + 1 - (i + 1)) dc ⟨g, i * 2, none⟩ (n - i) sc row2 31 (prCs (l.drop i)) Tryd.underlying28 pairSize hW (by rw [hdl]; simp only [Nat.min_def]; split <;> omega) ?_ (by rw [hdl, s2]; omega) (prCs_one _)
    intro j v hj
    rw [off_add, Lib.cell_of_heap hgW]
    rw [prCs_drop, List.getElem?_drop] at hj
    have := hcell _ _ hj
    rwa [Lib.cell_of_heap hg] at this
  have HT3 := Lib.hid t3
  have HO := Lib.hid hown
  have HN := Lib.hid hn
  have HG := Lib.hid (And.intro hg hv)
  have hz3 : (cap : Int) < (n : Int) + 1 := by omega
  have hz2' : ¬ ((i : Int) = (n : Int)) := by omega
  have hGi : ¬ (G = i) := by omega
  have hGim : ¬ (G = i + 1) := by omega
  have hci : ¬ (cap = i) := by omega
  have hw1 : IntKind.i64.wrap ((i : Int) + 1) = (i : Int) + 1 := by rw [IntKind.wrap_i64]; omega
  have hb1 : (0 : Int) ≤ (i : Int) + 1 := by omega
  have hin : i ≤ n := by omega
  have htn : ((i : Int) + 1).toNat = i + 1 := by omega
  have hb3 : (i : Int) ≤ (n : Int) := by omega
  clear h2 h3 hg hv t3 hown hn htake hdl hold hG hrow hti hrs hrt hcell hi0 hz0 hz1 hz2
  go_enter Tryd.func38, Tryd.ntmps38
  have hgN : g ≠ w.heap.size := by omega
  go_wp2_with (at_builtin; refine Lib.wpList_append_run _ rfl _ _ _ _ rfl _ _ rfl rfl _ _ (hrz _) ?_)
  rw [hcpA ((w.alloc (.cells row 31)).drew) (heap_alloc_new w _) ((heap_alloc_old w _ hvl).trans HG.out.2)]
  go_wp2
  go_region_law (refine step_copy_runI rfl _ _ 28 28 rfl (.slice (some ⟨w.heap.size, (i + 1) * 2, none⟩) (n + 1 - (i + 1)) (G - (i + 1))) (.slice (some ⟨g, i * 2, none⟩) (n - i) (cap - i)) (by simp [Act.eval, Act.put]) (by simp [Act.eval, Act.put]) (hcpB ((((w.alloc (.cells row 31)).drew).setRow w.heap.size row2).drew) (setRow_heap ((w.alloc (.cells row 31)).drew) _ _ _ _ _ (heap_alloc_new w _)) ((setRow_other _ _ _ _ hgN).trans ((heap_alloc_old w _ hgl).trans HG.out.1)) _ _ _) ?_)
  go_wp2
  go_ret
  have hl' : (l.take i ++ [x] ++ l.drop i).length = n + 1 := by
    have := HN.out
    rw [List.length_append, List.length_append, List.length_take, List.length_drop, List.length_cons, List.length_nil]
    omega
  refine ⟨_, rfl, ⟨⟨prCs_len _, .inr ⟨w.heap.size, G, row3, by rw [hl']; rfl, HO.out.2, setRow_heap _ _ _ _ _ _ (setRow_heap _ _ _ _ _ _ (heap_alloc_new w _)), by omega, hGm, s3, by rw [hl']; exact HT3.out⟩⟩, ?_⟩, ?_⟩
  · have := HO.out.2
    rw [setRow_size]
    show B ≤ ((w.alloc _).setRow _ _).heap.size
    rw [setRow_size, World.size_alloc]; omega
  · have hBw := HO.out.2
    refine ⟨rfl, rfl, rfl, ?_, fun k hk => ?_⟩
    · rw [setRow_size]
      show w.heap.size ≤ ((w.alloc _).setRow _ _).heap.size
      rw [setRow_size, World.size_alloc]; omega
    · have hkN : k ≠ w.heap.size := by omega
      rw [setRow_other _ _ _ _ hkN]
      show ((w.alloc _).setRow _ _).heap[k]? = _
      rw [setRow_other _ _ _ _ hkN]
      exact heap_alloc_old w _ (by omega)

theorem insert_c (B : Nat) (v : Value) (l : List Pr) (i vb : Nat) (x : Pr) (w : World) (hown : OwnP B v l w) (hlen : l.length ≤ 1048576) (hi : i ≤ l.length) (hv : w.heap[vb]? = some (.cells #[.string x.n, .string x.v] 31 (0, 0))) (hvb : v.ownBlock ≠ some vb) :
    Calls Tryd.prog 38 #[v, .int .i64 (i : Int), .slice (some ⟨vb, 0, none⟩) 1 1] w fun e w' => ∃ v', e = .returned v' ∧ OwnP B v' (l.take i ++ [x] ++ l.drop i) w' ∧ Below B w w' := by
  by_cases h : i = l.length
  · subst h
    rw [List.take_length, List.drop_length, List.append_nil]
    exact insert_end B v l vb x w hown hlen hv
  · have hlt : i < l.length := by omega
    rcases hown.1.2 with ⟨rfl, h0⟩ | ⟨g, cap, cur, rfl, hBg, hcur, hnc, hcm, hcs, htake⟩
    · omega
    · have hne : vb ≠ g := fun e => hvb (by rw [e]; rfl)
      by_cases hr : l.length + 1 ≤ cap
      · exact insert_shift B g cap cur l i vb x w hown hlen hlt hBg hcur hr hcm hcs htake hv hne
      · exact insert_grow B g cap cur l i vb x w hown hlen hlt hcur hnc (by omega) htake hv
theorem OwnP.below {B : Nat} {v : Value} {l : List Pr} {w w' : World} (h : OwnP B v l w) (hb : Below w.heap.size w w') : OwnP B v l w' := by
  refine ⟨?_, Nat.le_trans h.2 hb.size⟩
  rcases h.1.2 with h0 | ⟨g, cap, cur, rfl, hBg, hcur, hr⟩
  · exact ⟨h.1.1, .inl h0⟩
  · exact ⟨h.1.1, .inr ⟨g, cap, cur, rfl, hBg, by rw [hb.block g (fills_lt' hcur)]; exact hcur, hr⟩⟩
/-- What such a row's cells are. -/
theorem OwnP.cells {B g n cap : Nat} {l : List Pr} {w : World} (h : OwnP B (.slice (some ⟨g, 0, none⟩) n cap) l w) (i : Nat) (x : Pr) (hx : l[i]? = some x) : w.cell? ⟨g, i * 2, none⟩ = some (.string x.n) ∧ w.cell? ⟨g, i * 2 + 1, none⟩ = some (.string x.v) := by
  rcases h.1.2 with ⟨h0, _⟩ | ⟨g', cap', cur, he, hBg, hcur, hnc, hcm, hcs, htake⟩
  · cases h0
  · cases he
    have hil := (List.getElem?_eq_some_iff.1 hx).1
    have hsp : prCs l = prCs (l.take i) ++ (prC x ++ prCs (l.drop (i + 1))) := by
      have e : l = l.take i ++ ([x] ++ l.drop (i + 1)) := by
        have h1 := (List.take_append_drop i l).symm
        rw [List.drop_eq_getElem_cons hil] at h1
        rw [(List.getElem?_eq_some_iff.1 hx).2] at h1
        exact h1
      conv => lhs; rw [e, prCs_append, prCs_append]
      simp [prCs]
    have hti : (prCs (l.take i)).length = i * 2 := by rw [prCs_len, List.length_take]; omega
    have key : ∀ j, j < 2 → w.cell? ⟨g, i * 2 + j, none⟩ = (prC x)[j]? := fun j hj => by
      rw [Lib.cell_of_heap hcur, ← Array.getElem?_toList]
      have h1 : (cur.toList.take (l.length * 2))[i * 2 + j]? = cur.toList[i * 2 + j]? := List.getElem?_take_of_lt (by omega)
      rw [← h1, htake, hsp, List.getElem?_append_right (by rw [hti]; omega), hti, Nat.add_sub_cancel_left, List.getElem?_append_left (by show j < 2; exact hj)]
    exact ⟨key 0 (by omega), key 1 (by omega)⟩
theorem OwnP.shape {B : Nat} {v : Value} {l : List Pr} {w : World} (h : OwnP B v l w) : ∃ p c, v = .slice p l.length c ∧ l.length ≤ c ∧ c ≤ maxLen ∧ (l = [] ∨ ∃ g, p = some ⟨g, 0, none⟩ ∧ B ≤ g ∧ g < w.heap.size) := by
  rcases h.1.2 with ⟨rfl, h0⟩ | ⟨g, cap, cur, rfl, hBg, hcur, hnc, hcm, _⟩
  · exact ⟨none, 0, by rw [h0], by omega, by unfold maxLen; omega, .inl (List.eq_nil_of_length_eq_zero h0)⟩
  · exact ⟨_, _, rfl, hnc, hcm, .inr ⟨g, rfl, hBg, fills_lt' hcur⟩⟩
end Go.Proofs.YtglffpjobjpmpaaDoor
