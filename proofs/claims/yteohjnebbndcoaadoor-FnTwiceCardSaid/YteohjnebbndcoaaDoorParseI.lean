/-
  CONTRACT OF impl's Parse, where ParseMediaType hands back a map of at most one entry, or an error of its own.
-/
import Derived.Test.YteohjnebbndcoaaDoorParse
import Derived.Test.YteohjnebbndcoaaDoorSort1
import Derived.Maps.RangeWalk
import Derived.LaidEql
import Derived.Stop.IfaceNil
namespace Go.Proofs.YteohjnebbndcoaaDoor
open Go.RowKit Go.WideMaps Go.Maps

/-- The two errors: what the two variables hold; the pointers are different ones. -/
def ErrsAt (er : Value) (w : World) : Prop := ∃ (tp : TypeId) (a0 a1 : Addr) (c0 c1 : Array Value) (t0 t1 : TypeId), tp = 152 ∧ er = .iface tp (.pointer (some a1)) ∧
  w.cell? ⟨0, 0, none⟩ = some (.iface tp (.pointer (some a0))) ∧ w.cell? ⟨1, 0, none⟩ = some er ∧ a1 ≠ a0 ∧
  w.heap[a0.block]? = some (.cells c0 t0 (0, 0)) ∧ w.heap[a1.block]? = some (.cells c1 t1 (0, 0))
theorem lt_of_heap {w : World} {g : Nat} {o : Obj} (h : w.heap[g]? = some o) : g < w.heap.size := by
  rcases Nat.lt_or_ge g w.heap.size with h1 | h1
  · exact h1
  · rw [Array.getElem?_eq_none h1] at h; cases h
theorem lt_of_cell {w : World} {g j : Nat} {v : Value} (h : w.cell? ⟨g, j, none⟩ = some v) : g < w.heap.size := by
  rcases Nat.lt_or_ge g w.heap.size with h1 | h1
  · exact h1
  · unfold World.cell? at h
    simp [Array.getElem?_eq_none h1] at h
theorem ErrsAt.below {er : Value} {w w' : World} (h : ErrsAt er w) (hb : Below w.heap.size w w') : ErrsAt er w' := by
  obtain ⟨tp, a0, a1, c0, c1, t0, t1, h0, h1, h2, h3, h4, h5, h6⟩ := h
  exact ⟨tp, a0, a1, c0, c1, t0, t1, h0, h1, (hb.cell (p := ⟨_, 0, none⟩) (lt_of_cell h2)).trans h2, (hb.cell (p := ⟨_, 0, none⟩) (lt_of_cell h3)).trans h3, h4, (hb.block _ (lt_of_heap h5)).trans h5, (hb.block _ (lt_of_heap h6)).trans h6⟩

/-- Parse hands back the state n. -/
def ParseI (n : Int) (w : World) (e : Ending) (w' : World) : Prop := Below w.heap.size w w' ∧ ∃ a b, e = .returned (.tuple #[a, b, .int .i64 n])

theorem ptrInfo : (Tryd.prog.info? 152).map (·.comparable) = some true := by kernel_rfl
theorem strInfo : (Tryd.prog.info? 166).map (·.size) = some 1 := by kernel_rfl

set_option maxHeartbeats 1000000 in
set_option maxRecDepth 100000 in
theorem parseI_err (x : ByteArray) (er : Value) (w : World) (hE : ErrsAt er w) (H : Calls Tryd.prog 19 #[.string x] w (fun e w' => Below w.heap.size w w' ∧ e = .returned (.tuple #[.string ⟨#[]⟩, .map none, er]))) :
    Calls Tryd.prog 14 #[.string x] w (ParseI 2 w) := by
  have HH := Lib.hid H
  have HE := Lib.hid hE
  clear H hE
  obtain ⟨i, hi, hcomp⟩ := Option.map_eq_some_iff.1 ptrInfo
  obtain ⟨j, hj, hjs⟩ := Option.map_eq_some_iff.1 strInfo
  have HI := Lib.hid (And.intro hi (And.intro hcomp (And.intro hj hjs)))
  have hrn : ∀ w : World, (Instr.range 39 (.map none)).run Tryd.prog w = _ := fun w => run_range_nilMap w 39 _ _ Tryd.underlying39
  clear hi hcomp hj hjs
  go_enter Tryd.func14, Tryd.ntmps14
  go_wp2_with fail
  refine (HH.out).mono ?_
  rintro e w1 ⟨hb1, rfl⟩
  have hE1 := HE.out.below hb1
  have hnx : ∀ ty : TypeId, (Instr.next (.pointer (some ⟨w1.heap.size, 0, none⟩)) false ty).run Tryd.prog (w1.alloc (.mapIter none 0 #[] 0)) = _ := fun ty => run_next_nilMap w1 ty 0 0 #[]
  have b2 := hb1.alloc hb1.size (.mapIter none 0 #[] 0)
  have hE2 := hE1.below ((Below.refl _ w1).alloc (Nat.le_refl _) (.mapIter none 0 #[] 0))
  obtain ⟨tp, a0, a1, c0, c1, t0, t1, rfl, rfl, h2, h3, h4, h5, h6⟩ := hE2
  have heq := run_eql_iface_ptr_other (w1.alloc (.mapIter none 0 #[] 0)) Tryd.underlying41 Tryd.underlying152 HI.out.1 HI.out.2.1 HI.out.2.2.1 (by rw [HI.out.2.2.2]; decide) h4 h6 h5
  have HE1 := Lib.hid hE1
  clear hE1 h3 h4 h5 h6
  go_wp2_with fail
  refine wp_loop_rounds 1 ?_
  rw [rounds_succ]
  go_wp2_with fail
  refine (sortFunc_c none 0 0 _ _ (by omega)).mono ?_
  rintro e w2 ⟨rfl, rfl⟩
  go_wp2_with fail
  go_ret3
  exact ⟨b2, _, _, rfl⟩

theorem pairInfo : (Tryd.prog.info? 45).map (fun i => (i.zero, i.size, i.bytes)) = some (some (.agg #[.string ⟨#[]⟩, .string ⟨#[]⟩]), 2, 32) := by kernel_rfl

set_option maxHeartbeats 2000000 in
set_option maxRecDepth 100000 in
theorem parseI_ok (x tl : ByteArray) (w : World) (H : Calls Tryd.prog 19 #[.string x] w (fun e w' => Below w.heap.size w w' ∧ ∃ b n D, e = .returned (.tuple #[.string tl, .map (some b), .nilIface]) ∧ MapIs b n D w' ∧ Maps.size D ≤ 1 ∧ w.heap.size ≤ b)) :
    Calls Tryd.prog 14 #[.string x] w (ParseI 0 w) := by
  have HH := Lib.hid H
  clear H
  obtain ⟨i0, hi, hz0, hz1, hz2⟩ := info_parts pairInfo
  go_enter Tryd.func14, Tryd.ntmps14
  go_wp2_with fail
  refine (HH.out).mono ?_
  rintro e w1 ⟨hb1, b, n, D, rfl, hmap, hsz, hbw⟩
  have hbl : b < w1.heap.size := World.ownsMap.lt hmap
  have HS := Lib.hid hsz
  clear hsz
  go_wp2_with (at_range; refine wpList_range_own _ rfl _ 39 rfl 9 9 keyLaw Tryd.underlying39 _ b n D rfl hmap ?_; intro w0 hrg0 hg0 hs0)
  go_frame
  have hb0 : Below w.heap.size w w0 := hb1.grown hg0 hb1.size (fun j hj => by cases hj)
  clear hmap
  go_loopw [8] (fun out wr => ∃ (left : Lit → Bool) (cnt m : Nat) (xs : List Value), wr.ranges Tryd.prog 9 (plainElem Tryd.prog 9) b w1.heap.size n D left cnt ∧ m + cnt ≤ 1 ∧
      wr.ownsRow (w1.heap.size + 1) 45 2 out m xs ∧ Below w.heap.size w wr ∧ w1.heap.size + 1 ≤ wr.heap.size)
    (fun _ wr => wr.rangeLeft b w1.heap.size)
  case atStart => exact ⟨_, _, 0, [], hrg0, by have := HS.out; omega, World.ownsRow_nil _ _ _ _, hb0, by omega⟩
  case round =>
    obtain ⟨left, cnt, m, xs, hrg, hmc, hown, hnx, hsz1⟩ := hrel
    go_wp2_with (at_next; refine wpList_next_ranges _ rfl _ rfl 9 keyLaw (plainElem Tryd.prog 9) Value.string Value.string (fun key kl hk => by obtain ⟨y, hy, _⟩ := string_of_keyOf Tryd.underlying9 hk; exact ⟨y, hy⟩) (fun v y hv => by obtain ⟨c, rfl, _⟩ := plainElem_string_inv Tryd.underlying9 hv; exact ⟨c, rfl⟩) b w1.heap.size n _ _ _ rfl hrg ?_ ?_)
    · intro hc0 hl0
      clear hrg0 hs0
      rcases hown.2 with ⟨rfl, hm0⟩ | ⟨g, cap, cur, rfl, _⟩
      · go_wp2_with fail
        refine (sortFunc_c none 0 0 _ _ (by omega)).mono ?_
        rintro e w2 ⟨rfl, rfl⟩
        go_wp2_with fail
        go_ret3
        exact ⟨hnx, _, _, rfl⟩
      · go_wp2_with fail
        refine (sortFunc_c _ m _ _ _ (by omega)).mono ?_
        rintro e w2 ⟨rfl, rfl⟩
        go_wp2_with fail
        go_ret3
        exact ⟨hnx, _, _, rfl⟩
    · intro y c kl yd yp w2 cnt2 hkey hlk hv hat hrg2 hlt hg2 hs2 hen
      have hown2 := hown.kept hg2 (by
        rcases hown.2 with ⟨rfl, _⟩ | ⟨g, cap, cur, rfl, hBg, _⟩
        · exact .inl rfl
        · exact .inr (by simp [Value.ownBlock]; omega))
      have hnx2 := hnx.grown hg2 hnx.size (fun j hj => by cases hj; omega)
      have hz2' : w1.heap.size + 1 ≤ w2.heap.size := by omega
      clear hs2 hkey hlk hv hat hrg0 hs0
      go_wp2_with (at_builtin; refine wpList_append_own _ rfl _ _ 33 rfl (w1.heap.size + 1) 45 i0 _ 2 32 Tryd.underlying33 hi hz0 hz1 hz2 rfl (by decide) _ _ _ rfl (hown2.alloc _) ⟨w2.heap.size, 0, none⟩ 1 1 [.string y, .string c] rfl rfl ?c1 ?c2 ?c3 ?c4 ?c5 ?_)
      case c1 =>
        intro j u hj
        match j, hj with
        | 0, hj => simp at hj; subst hj; simp [Addr.add]
        | 1, hj => simp at hj; subst hj; simp [Addr.add]
      case c2 => intro u hu; simp at hu; rcases hu with rfl | rfl <;> rfl
      case c3 => unfold maxLen; omega
      case c4 => omega
      case c5 => simp; omega
      intro v3 w3 hown3 hgrow3 _
      have hne : ∀ k, k < w1.heap.size + 1 → some k ≠ (Value.ownBlock _) := fun k hk e => by have := (hown2.lt k e.symm).1; omega
      have hrg3 := (hrg2.alloc (.cells #[.string y, .string c] 45)).kept hgrow3 (hne b (by omega)) (hne w1.heap.size (by omega))
      have hs3 := hgrow3.size
      simp only [World.size_alloc] at hs3
      go_wp2_with fail
      go_roundw
      case rel => exact ⟨_, cnt2, m + 1, _, hrg3, by omega, hown3, ((hnx2.alloc hnx2.size _).grown hgrow3 (by have := hnx2.size; simp; omega) (fun k hk => by have := (hown2.lt k hk).1; have := hb1.size; omega)), by omega⟩
      case measure => rw [hrg3.left_eq, hrg.left_eq]; exact hlt
end Go.Proofs.YteohjnebbndcoaaDoor
