/-
  CONTRACTS OF strings.Builder's Write, WriteString AND WriteRune on a builder of the call's own that holds fewer than 2 to the 47th bytes; each says, beside what the builder holds, which other blocks stand as they stood.
-/
import Derived.Test.YtlapehcngmiaaaaDoorBld
import Derived.Test.YtlapehcngmiaaaaDoorFill
import Derived.Test.YtlapehcngmiaaaaDoorSaid
import Derived.Lib.AppendStr
namespace Go.Proofs.YtlapehcngmiaaaaDoor
open Go.RowKit

/-- Block g is another one than the builder's (b) and than its row of bytes. -/
def Off (b g : Nat) (w : World) : Prop := g < w.heap.size ∧ g ≠ b ∧ ∀ p v T fr, w.heap[b]? = some (.cells #[p, v] T fr) → v.ownBlock ≠ some g
/-- Each such block stands as it stood, and is such a one still. -/
def OffKept (b : Nat) (w w' : World) : Prop := ∀ g, Off b g w → w'.heap[g]? = w.heap[g]? ∧ Off b g w'
theorem OffKept.refl (b : Nat) (w : World) : OffKept b w w := fun _ h => ⟨rfl, h⟩
theorem OffKept.trans {b : Nat} {w1 w2 w3 : World} (h : OffKept b w1 w2) (k : OffKept b w2 w3) : OffKept b w1 w3 := fun g hg => by
  obtain ⟨h1, h2⟩ := h g hg
  obtain ⟨k1, k2⟩ := k g h2
  exact ⟨k1.trans h1, k2⟩
theorem OffKept.drew {b : Nat} {w w' : World} (h : OffKept b w w') : OffKept b w w'.drew := h

theorem strCells_bytes (s : ByteArray) : Lib.strCells s = Lib.byteCells (L s) := by unfold Lib.strCells Lib.byteCells L; rfl

theorem copyCheck_off (B b : Nat) (bs : List Value) (w : World) (h : Lib.IsBuilder 55 5 B b bs w) :
    Calls Tryd.prog 41 #[.pointer (some ⟨b, 0, none⟩)] w fun e w' => e = .returned (.tuple #[]) ∧ Lib.BuilderAt 55 5 B b (.pointer (some ⟨b, 0, none⟩)) bs w' ∧ Below B w w' ∧ w.heap.size ≤ w'.heap.size ∧ OffKept b w w' := by
  rcases h with h | h
  · refine (copyCheck_fresh b w h.cell0 h.shape h.frozen0).mono ?_
    rintro e w' ⟨rfl, rfl⟩
    refine ⟨rfl, h.used _, (Below.refl B w).setCell (p := ⟨b, 0, none⟩) h.1 _, by simp [World.setCell], ?_⟩
    intro g ⟨hg, hne, hro⟩
    obtain ⟨hB, v0, hb0, hown0, hv0⟩ := h
    have hro' := hro _ _ _ _ hb0
    refine ⟨Below.heap_setCell _ _ _ _ (fun e => hne e), by simp [World.setCell]; exact hg, hne, ?_⟩
    intro p v T fr hb
    have : (w.setCell ⟨b, 0, none⟩ (.pointer (some ⟨b, 0, none⟩))).heap[b]? = some (.cells #[.pointer (some ⟨b, 0, none⟩), v0] 55 (0, 0)) := by
      simp [World.setCell, Array.getElem?_modify, hb0]
    rw [this] at hb
    simp only [Option.some.injEq, Obj.cells.injEq] at hb
    have h2 := hb.1
    simp at h2
    rw [← h2.2]
    exact hro'
  · refine (copyCheck_used b w h.cell0).mono ?_
    rintro e w' ⟨rfl, rfl⟩
    exact ⟨rfl, h, Below.refl B _, Nat.le_refl _, OffKept.refl _ _⟩

/-- Where the value lies that an append of a text's bytes hands back. -/
theorem append_string_at {P : Program} (w : World) (base : Nat) (t u ty e : TypeId) (i : TypeInfo) (ht : P.underlying t = some (.slice e)) (hu : P.underlying u = some .string) (hi : P.info? e = some i) (hz : i.zero = some (.int .u8 0))
    (hsize : i.size = 1) (hby : i.bytes = 1)
    (v : Value) (n : Nat) (xs : List Value) (hown : w.ownsRow base e 1 v n xs) (s : ByteArray)
    (h63 : n + s.size ≤ maxLen) (hbytes : n + s.size ≤ 140737488355328) (hbase : base ≤ w.heap.size) :
    ∃ v' w', (Builtin.append_ #[t, u] ty #[v, .string s]).run P w = .ok v' w' ∧ w'.ownsRow base e 1 v' (n + s.size) (xs ++ Lib.strCells s) ∧ w.grownBy w' v.ownBlock ∧
      (v'.ownBlock = v.ownBlock ∨ v'.ownBlock = some w.heap.size) := by
  obtain ⟨v', w', hr, h2, h3, h4⟩ := Lib.run_append_own_string (P := P) w base t u ty e i ht hu hi hz hsize hby v n xs hown s h63 hbytes hbase
  refine ⟨v', w', hr, h2, h3, ?_⟩
  have hxl : xs.length = n := by simpa using hown.1
  unfold maxLen at h63
  rcases hown.2 with ⟨rfl, rfl⟩ | ⟨g, cap, cur, rfl, hbg, hg, hnc, hcm, hcs, htake⟩
  · by_cases hm : s.size = 0
    · left
      rw [h4.2 ⟨rfl, hm⟩]
    · have hr0 := run_append_nil_string (P := P) w t u ty e i (.int .u8 0) ht hu hi hz s (by omega) (by omega) (by rw [hby]; omega)
      rw [hr0] at hr
      injection hr with h _
      right
      rw [← h]
      rfl
  · by_cases hroom : n + s.size ≤ cap
    · have hr0 := Lib.run_append_room_string (P := P) w t u ty e i ht hu hi hsize g n cap cur hg s hroom (by omega)
      rw [hr0] at hr
      injection hr with h _
      left
      rw [← h]
      rfl
    · have holds : ∀ j u, xs[j]? = some u → w.cell? ((⟨g, 0, none⟩ : Addr).add j) = some u := hown.cells (g := g) rfl
      have hr0 := Lib.run_append_grow_string (P := P) w t u ty e i (.int .u8 0) ht hu hi hz ⟨g, 0, none⟩ n cap xs (by rw [hsize]; simpa using hxl) holds s (by omega) (by omega) (by rw [hby]; exact growslice_fits (by omega) (by omega))
      rw [hr0] at hr
      injection hr with h _
      right
      rw [← h]
      rfl
theorem wpList_append_string_at {ops : Array Oper} {rest : List Oper} {o : Oper} {a : Act} {Q : Exit → Act → World → Prop} {w : World} (hgd : o.guard = none) (sl x : Operand)
    (ho : o.op = .call { callee := .builtin .append, args := #[sl, x], argTypes := #[44, 9] })
    (B : Nat) (v : Value) (n : Nat) (xs : List Value) (hs : a.eval sl = v) (hown : w.ownsRow B 5 1 v n xs) (s : ByteArray) (hx : a.eval x = .string s)
    (hbytes : n + s.size ≤ 140737488355328) (hbase : B ≤ w.heap.size)
    (h : ∀ v' w', w'.ownsRow B 5 1 v' (n + s.size) (xs ++ Lib.strCells s) → w.grownBy w' v.ownBlock → (v'.ownBlock = v.ownBlock ∨ v'.ownBlock = some w.heap.size) → wpList Tryd.prog ops Q rest (a.put o.dst v') w') :
    wpList Tryd.prog ops Q (o :: rest) a w := by
  obtain ⟨i0, hi, hz0, hz1, hz2⟩ := info_parts byteInfo
  refine wpList_plain hgd fun K hK => ?_
  obtain ⟨v', w', hr, h2, h3, h4⟩ := append_string_at (P := Tryd.prog) w B 44 9 o.type 5 i0 Tryd.underlying44 Tryd.underlying9 hi hz0 hz1 hz2 v n xs hown s (by unfold maxLen; omega) hbytes hbase
  unfold Oper.wp execOp
  simp only [ho, resolve, invoke, builtin, Sem.run_bind, Sem.run_pure, Result.andThen_ok, List.map_toArray, List.map_cons, List.map_nil, hs, hx, hr]
  exact hK _ _ (h v' w' h2 h3 h4)

/-- What became of the builder's block and the others, once a new buffer is laid into it. -/
theorem off_put {b : Nat} {p v v' : Value} {w1 w2 : World} {T : TypeId} (hbk : w1.heap[b]? = some (.cells #[p, v] T (0, 0))) (hb2 : w2.heap[b]? = some (.cells #[p, v] T (0, 0))) (hgrow : w1.grownBy w2 v.ownBlock)
    (hloc : v'.ownBlock = v.ownBlock ∨ v'.ownBlock = some w1.heap.size) : OffKept b w1 (w2.setCell ⟨b, 1, none⟩ v') := by
  intro g ⟨hg, hne, hro⟩
  have hro' := hro _ _ _ _ hbk
  have hsz := hgrow.size
  refine ⟨?_, by simp [World.setCell]; omega, hne, ?_⟩
  · rw [Below.heap_setCell _ _ _ _ (fun e => hne e)]
    exact hgrow.block g hg (fun e => hro' e.symm)
  · intro p' u T' fr hb
    have : (w2.setCell ⟨b, 1, none⟩ v').heap[b]? = some (.cells #[p, v'] T (0, 0)) := by simp [World.setCell, Array.getElem?_modify, hb2]
    rw [this] at hb
    simp only [Option.some.injEq, Obj.cells.injEq] at hb
    have h2 := hb.1
    simp at h2
    rw [← h2.2]
    rcases hloc with e | e
    · rw [e]; exact hro'
    · rw [e]; intro e2; simp at e2; omega

set_option maxRecDepth 100000 in
theorem writeString_c (B b : Nat) (l : List UInt8) (s : ByteArray) (w : World) (h : Bld B b l w) (hlen : l.length + s.size ≤ 140737488355328) :
    Calls Tryd.prog 30 #[.pointer (some ⟨b, 0, none⟩), .string s] w fun e w' => e = .returned (.tuple #[.int .i64 s.size, .nilIface]) ∧ Bld B b (l ++ L s) w' ∧ Below B w w' ∧ OffKept b w w' := by
  obtain ⟨hI, hBw⟩ := h
  have hbl : (Lib.byteCells l).length + s.size ≤ 140737488355328 := by simp [Lib.byteCells]; omega
  clear hlen
  go_enter Tryd.func30, Tryd.ntmps30
  go_wp2_with (go_at_call 41; refine (copyCheck_off B b _ _ hI).mono ?_)
  rintro e w1 ⟨rfl, h1, hb1, hsz, hk1⟩
  obtain ⟨hB, v, hbk, hown, hne⟩ := h1
  have c1 : w1.cell? ⟨b, 1, none⟩ = some v := by rw [Lib.cell_of_heap hbk]; rfl
  go_wp2_with (at_builtin; refine wpList_append_string_at rfl _ _ rfl B _ _ _ rfl hown s rfl ?c4 ?c5 ?_)
  case c4 => omega
  case c5 => omega
  intro v' w2 hown' hgrow hloc
  have hlt : b < w1.heap.size := by
    rcases Nat.lt_or_ge b w1.heap.size with h' | h'
    · exact h'
    · simp [Array.getElem?_eq_none h'] at hbk
  have hb2 : w2.heap[b]? = some (.cells #[.pointer (some ⟨b, 0, none⟩), v] 55 (0, 0)) := by
    rw [hgrow.block b hlt (fun e => hne e.symm)]
    exact hbk
  have d1 : w2.cell? ⟨b, 1, none⟩ = some v := by rw [Lib.cell_of_heap hb2]; rfl
  have f1 : w2.frozen? ⟨b, 1, none⟩ = false := Lib.frozen_of_heap hb2 1
  obtain ⟨ao, n', cap, rfl⟩ : ∃ ao n' cap, v' = .slice ao n' cap := by
    rcases hown'.2 with ⟨hv, _⟩ | ⟨g, cap, cur, hv, _⟩
    · exact ⟨_, _, _, hv⟩
    · exact ⟨_, _, _, hv⟩
  have hs2 := hgrow.size
  go_wp2
  go_ret2
  refine ⟨rfl, ⟨.inr ?_, ?_⟩, ?_, hk1.trans (off_put hbk hb2 hgrow hloc)⟩
  · have hB2 := Lib.BuilderAt.put (T := 55) (e := 5) hB hb2 (bs' := Lib.byteCells l ++ Lib.strCells s) (by simpa [Lib.strCells_length] using hown') (by decide)
    have e : Lib.byteCells (l ++ L s) = Lib.byteCells l ++ Lib.strCells s := by rw [strCells_bytes]; simp [Lib.byteCells]
    rw [e]
    exact hB2
  · simp [World.setCell]; omega
  · exact (hb1.grown hgrow (by omega) (fun k hk => (hown.lt k hk).1)).setCell (p := ⟨b, 1, none⟩) hB _

/-- The source's bytes lie in the block g from cell o on. -/
def Lies (g o : Nat) (x : List UInt8) (w : World) : Prop := ∀ (j : Nat) (c : UInt8), x[j]? = some c → w.cell? ⟨g, o + j, none⟩ = some (.int .u8 (c.toNat : Int))
theorem Lies.of_heap {g o : Nat} {x : List UInt8} {w w' : World} (h : Lies g o x w) (e : w'.heap[g]? = w.heap[g]?) : Lies g o x w' := fun j c hj => by
  have := h j c hj
  unfold World.cell? at this ⊢
  rw [e]
  exact this
theorem Fills.lies {g m : Nat} {x : List UInt8} {w : World} (h : Fills g m x w) : Lies g 0 x w := fun j c hj => by
  rw [Lib.cell_of_heap h.1, Nat.zero_add]
  have hl : j < x.length := (List.getElem?_eq_some_iff.1 hj).1
  unfold fillCells
  rw [List.getElem?_toArray, List.getElem?_append_left (by simpa [Lib.byteCells] using hl)]
  simp [Lib.byteCells, hj]

set_option maxRecDepth 100000 in
theorem write_c (B b g o c : Nat) (l x : List UInt8) (w : World) (h : Bld B b l w) (hg : Off b g w) (hx : Lies g o x w) (hlen : l.length + x.length ≤ 140737488355328) :
    Calls Tryd.prog 46 #[.pointer (some ⟨b, 0, none⟩), .slice (some ⟨g, o, none⟩) x.length c] w fun e w' => e = .returned (.tuple #[.int .i64 x.length, .nilIface]) ∧ Bld B b (l ++ x) w' ∧ Below B w w' := by
  obtain ⟨hI, hBw⟩ := h
  have hbl : (Lib.byteCells l).length + x.length ≤ 140737488355328 := by simp [Lib.byteCells]; omega
  clear hlen
  obtain ⟨i0, hi, hz0, hz1, hz2⟩ := info_parts byteInfo
  go_enter Tryd.func46, Tryd.ntmps46
  go_wp2_with (go_at_call 41; refine (copyCheck_off B b _ _ hI).mono ?_)
  rintro e w1 ⟨rfl, h1, hb1, hsz, hk1⟩
  obtain ⟨hB, v, hbk, hown, hne⟩ := h1
  have hx1 := hx.of_heap (hk1 g hg).1
  have c1 : w1.cell? ⟨b, 1, none⟩ = some v := by rw [Lib.cell_of_heap hbk]; rfl
  go_wp2_with (at_builtin; refine wpList_append_own _ rfl _ _ 44 rfl B 5 i0 (.int .u8 0) 1 1 Tryd.underlying44 hi hz0 hz1 hz2 rfl (by decide) _ _ _ rfl hown ⟨g, o, none⟩ x.length c (Lib.byteCells x) rfl (by simp [Lib.byteCells]) ?c1 (byteCells_oneCell x) ?c3 ?c4 ?c5 ?_)
  case c1 =>
    intro j u hj
    have e1 : ((⟨g, o, none⟩ : Addr).add j) = ⟨g, o + j, none⟩ := by simp only [Addr.add]; split <;> simp_all
    rw [e1]
    simp only [Lib.byteCells, List.getElem?_map, Option.map_eq_some_iff] at hj
    obtain ⟨c', hc', rfl⟩ := hj
    exact hx1 j c' hc'
  case c3 => unfold maxLen; omega
  case c4 => omega
  case c5 => omega
  intro v' w2 hown' hgrow _
  have hlt : b < w1.heap.size := by
    rcases Nat.lt_or_ge b w1.heap.size with h' | h'
    · exact h'
    · simp [Array.getElem?_eq_none h'] at hbk
  have hb2 : w2.heap[b]? = some (.cells #[.pointer (some ⟨b, 0, none⟩), v] 55 (0, 0)) := by
    rw [hgrow.block b hlt (fun e => hne e.symm)]
    exact hbk
  have d1 : w2.cell? ⟨b, 1, none⟩ = some v := by rw [Lib.cell_of_heap hb2]; rfl
  have f1 : w2.frozen? ⟨b, 1, none⟩ = false := Lib.frozen_of_heap hb2 1
  obtain ⟨ao, n', cap, rfl⟩ : ∃ ao n' cap, v' = .slice ao n' cap := by
    rcases hown'.2 with ⟨hv, _⟩ | ⟨g, cap, cur, hv, _⟩
    · exact ⟨_, _, _, hv⟩
    · exact ⟨_, _, _, hv⟩
  have hs2 := hgrow.size
  go_wp2
  go_ret2
  refine ⟨rfl, ⟨.inr ?_, ?_⟩, ?_⟩
  · have hB2 := Lib.BuilderAt.put (T := 55) (e := 5) hB hb2 (bs' := Lib.byteCells l ++ Lib.byteCells x) (by simpa [Lib.byteCells] using hown') (by decide)
    rw [byteCells_append]
    exact hB2
  · simp [World.setCell]; omega
  · exact (hb1.grown hgrow (by omega) (fun k hk => (hown.lt k hk).1)).setCell (p := ⟨b, 1, none⟩) hB _

set_option maxRecDepth 100000 in
theorem writeRune_c (B b : Nat) (l : List UInt8) (r : Int) (w : World) (h : Bld B b l w) (hr0 : -2147483648 ≤ r) (hr1 : r ≤ 2147483647) (hlen : l.length + 4 ≤ 140737488355328) :
    Calls Tryd.prog 47 #[.pointer (some ⟨b, 0, none⟩), .int .i32 r] w fun e w' => e = .returned (.tuple #[.int .i64 (Lib.encodeRune r).length, .nilIface]) ∧ Bld B b (l ++ Lib.encodeRune r) w' ∧ Below B w w' := by
  obtain ⟨hI, hBw⟩ := h
  have hbl : (Lib.byteCells l).length + 4 ≤ 140737488355328 := by simp [Lib.byteCells]; omega
  have hll : (Lib.byteCells l).length = l.length := by simp [Lib.byteCells]
  have he := encodeRune_len r
  have HR := Lib.hid hr0
  go_enter Tryd.func47, Tryd.ntmps47
  go_wp2_with (go_at_call 41; refine (copyCheck_c B b _ _ hI).mono ?_)
  rintro e w1 ⟨rfl, h1, hb1, hsz⟩
  obtain ⟨hB, v, hbk, hown, hne⟩ := h1
  obtain ⟨ao, cap, rfl⟩ : ∃ ao cap, v = .slice ao l.length cap := by
    rcases hown.2 with ⟨hv, h0⟩ | ⟨g, cap, cur, hv, _⟩
    · exact ⟨none, 0, by rw [hv, ← hll, h0]⟩
    · exact ⟨_, _, by rw [← hll]; exact hv⟩
  have c1 : w1.cell? ⟨b, 1, none⟩ = some (.slice ao l.length cap) := by rw [Lib.cell_of_heap hbk]; rfl
  rw [hll] at hown
  have HL := Lib.hid hll
  clear hll
  go_wp2_with (go_at_call 36; refine (Tryd.utf8_AppendRune_plain B _ l.length (Lib.byteCells l) r hr0 hr1 _ hown (by omega) (by omega)).mono ?_)
  rintro e w2 ⟨v', rfl, hown', o, hgrow⟩
  have hlt : b < w1.heap.size := by
    rcases Nat.lt_or_ge b w1.heap.size with h' | h'
    · exact h'
    · simp [Array.getElem?_eq_none h'] at hbk
  have hb2 : w2.heap[b]? = some (.cells #[.pointer (some ⟨b, 0, none⟩), .slice ao l.length cap] 55 (0, 0)) := by
    rw [hgrow.block b (by simp; omega) (fun e => hne e.symm), Lib.alloc_old w1 _ b hlt]
    exact hbk
  have d1 : w2.cell? ⟨b, 1, none⟩ = some (.slice ao l.length cap) := by rw [Lib.cell_of_heap hb2]; rfl
  have f1 : w2.frozen? ⟨b, 1, none⟩ = false := Lib.frozen_of_heap hb2 1
  have hrl := Lib.runeCells_le r
  obtain ⟨g, cap', rfl⟩ : ∃ g cap', v' = .slice (some ⟨g, 0, none⟩) (l.length + (Lib.runeCells r).length) cap' := by
    rcases hown'.2 with ⟨_, h0⟩ | ⟨g, cap', cur, hv, _⟩
    · omega
    · exact ⟨g, cap', hv⟩
  have hs2 := hgrow.size
  simp only [World.size_alloc] at hs2
  go_wp2
  go_ret2
  refine ⟨?_, ⟨.inr ?_, ?_⟩, ?_⟩
  · have e : ((l.length : Int) + ((Lib.runeCells r).length : Int) - (l.length : Int)) = ((Lib.encodeRune r).length : Int) := by rw [← Lib.runeCells_length]; omega
    simp [e]
  · have hB2 := Lib.BuilderAt.put (T := 55) (e := 5) hB hb2 (bs' := Lib.byteCells l ++ Lib.runeCells r) (by simpa [Lib.byteCells] using hown') (by decide)
    rw [byteCells_append, Lib.byteCells_encodeRune]
    exact hB2
  · simp [World.setCell]; omega
  · exact ((hb1.alloc (by omega) _).grown hgrow (by simp; omega) (fun k hk => (hown.lt k hk).1)).setCell (p := ⟨b, 1, none⟩) hB _
end Go.Proofs.YtlapehcngmiaaaaDoor
