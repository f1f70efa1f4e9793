/-
  CONTRACTS OF strings.Builder's WriteByte AND WriteString on a builder of the call's own, with what they leave alone: each block that is neither the builder's nor a row of bytes.
-/
import Derived.Test.YtdoddigmfckhmaaDoorBld
import Derived.Lib.AppendStr
namespace Go.Proofs.YtdoddigmfckhmaaDoor
open Go.RowKit

/-- Each block of cells that are no bytes, but for block b, stands as it stood. -/
def NB (b : Nat) (w w' : World) : Prop := ∀ g cs T fr, g ≠ b → T ≠ 5 → w.heap[g]? = some (.cells cs T fr) → w'.heap[g]? = some (.cells cs T fr)
theorem NB.refl (b : Nat) (w : World) : NB b w w := fun _ _ _ _ _ _ h => h
theorem NB.trans {b : Nat} {u v w : World} (h : NB b u v) (k : NB b v w) : NB b u w := fun g cs T fr h1 h2 h3 => k g cs T fr h1 h2 (h g cs T fr h1 h2 h3)
theorem NB.setCell {b : Nat} {w w' : World} (h : NB b w w') (j : Nat) (v : Value) : NB b w (w'.setCell ⟨b, j, none⟩ v) := fun g cs T fr h1 h2 h3 => by
  rw [Below.heap_setCell _ _ _ _ (fun e => h1 e)]; exact h g cs T fr h1 h2 h3
theorem NB.below {b : Nat} {w w' : World} (h : Below w.heap.size w w') : NB b w w' := fun g cs T fr _ _ h3 => by
  have hg : g < w.heap.size := by
    rcases Nat.lt_or_ge g w.heap.size with h1 | h1
    · exact h1
    · rw [Array.getElem?_eq_none h1] at h3; cases h3
  rw [h.block g hg]; exact h3
theorem NB.grown {b B n : Nat} {w w' : World} {v : Value} {xs : List Value} (hg : w.grownBy w' v.ownBlock) (hown : w.ownsRow B 5 1 v n xs) : NB b w w' := fun g cs T fr _ h2 h3 => by
  have hl : g < w.heap.size := by
    rcases Nat.lt_or_ge g w.heap.size with h1 | h1
    · exact h1
    · rw [Array.getElem?_eq_none h1] at h3; cases h3
  rw [hg.block g hl]
  · exact h3
  · intro e
    rcases hown.2 with ⟨rfl, _⟩ | ⟨g', cap, cur, rfl, _, hcur, _⟩
    · cases e
    · simp only [Value.ownBlock, Option.some.injEq] at e
      subst e
      rw [h3] at hcur
      simp only [Option.some.injEq, Obj.cells.injEq] at hcur
      exact h2 hcur.2.1

theorem copyCheckN_c (B b : Nat) (bs : List Value) (w : World) (h : Lib.IsBuilder 40 5 B b bs w) :
    Calls Tryd.prog 25 #[.pointer (some ⟨b, 0, none⟩)] w fun e w' => e = .returned (.tuple #[]) ∧ Lib.BuilderAt 40 5 B b (.pointer (some ⟨b, 0, none⟩)) bs w' ∧ Below B w w' ∧ w.heap.size ≤ w'.heap.size ∧ NB b w w' := by
  rcases h with h | h
  · refine (copyCheck_fresh b w h.cell0 h.shape h.frozen0).mono ?_
    rintro e w' ⟨rfl, rfl⟩
    exact ⟨rfl, h.used _, (Below.refl B w).setCell (p := ⟨b, 0, none⟩) h.1 _, by simp [World.setCell], (NB.refl b w).setCell _ _⟩
  · refine (copyCheck_used b w h.cell0).mono ?_
    rintro e w' ⟨rfl, rfl⟩
    exact ⟨rfl, h, Below.refl B _, Nat.le_refl _, NB.refl b _⟩

set_option maxRecDepth 100000 in
theorem writeByteN_c (B b : Nat) (l : List UInt8) (c : UInt8) (w : World) (h : Bld B b l w) (hlen : l.length + 1 ≤ 140737488355328) :
    Calls Tryd.prog 28 #[.pointer (some ⟨b, 0, none⟩), .int .u8 c.toNat] w fun e w' => e = .returned .nilIface ∧ Bld B b (l ++ [c]) w' ∧ Below B w w' ∧ NB b w w' := by
  obtain ⟨hI, hBw⟩ := h
  have hbl : (Lib.byteCells l).length + 1 ≤ 140737488355328 := by simp [Lib.byteCells]; omega
  clear hlen
  obtain ⟨i0, hi, hz0, hz1, hz2⟩ := info_parts byteInfo
  go_enter Tryd.func28, Tryd.ntmps28
  go_wp2_with (go_at_call 25; refine (copyCheckN_c B b _ _ hI).mono ?_)
  rintro e w1 ⟨rfl, h1, hb1, hsz, hk1⟩
  obtain ⟨hB, v, hbk, hown, hne⟩ := h1
  have c1 : w1.cell? ⟨b, 1, none⟩ = some v := by rw [Lib.cell_of_heap hbk]; rfl
  go_wp2_with (at_builtin; refine wpList_append_own _ rfl _ _ 38 rfl B 5 i0 (.int .u8 0) 1 1 Tryd.underlying38 hi hz0 hz1 hz2 rfl (by decide) _ _ _ rfl (hown.alloc _) ⟨w1.heap.size, 0, none⟩ 1 1 [.int .u8 (c.toNat : Int)] rfl rfl ?c1 ?c2 ?c3 ?c4 ?c5 ?_)
  case c1 =>
    intro j u hj
    match j, hj with
    | 0, hj => simp at hj; subst hj; simp [Addr.add]
  case c2 => intro u hu; simp at hu; subst hu; rfl
  case c3 => unfold maxLen; omega
  case c4 => omega
  case c5 => simp; omega
  intro v' w2 hown' hgrow _
  have hlt : b < w1.heap.size := by
    rcases Nat.lt_or_ge b w1.heap.size with h' | h'
    · exact h'
    · simp [Array.getElem?_eq_none h'] at hbk
  have hb2 : w2.heap[b]? = some (.cells #[.pointer (some ⟨b, 0, none⟩), v] 40 (0, 0)) := by
    rw [hgrow.block b (by simp; omega) (fun e => hne e.symm), Lib.alloc_old w1 _ b hlt]
    exact hbk
  have d1 : w2.cell? ⟨b, 1, none⟩ = some v := by rw [Lib.cell_of_heap hb2]; rfl
  have f1 : w2.frozen? ⟨b, 1, none⟩ = false := Lib.frozen_of_heap hb2 1
  have HK := Lib.hid ((hk1.trans (NB.below ((Below.refl w1.heap.size w1).alloc (Nat.le_refl _) (.cells #[.int .u8 (c.toNat : Int)] 5)))).trans (NB.grown (b := b) hgrow (hown.alloc _)))
  obtain ⟨g, cap, rfl⟩ : ∃ g cap, v' = .slice (some ⟨g, 0, none⟩) ((Lib.byteCells l).length + 1) cap := by
    rcases hown'.2 with ⟨_, h0⟩ | ⟨g, cap, cur, hv, _⟩
    · omega
    · exact ⟨g, cap, hv⟩
  have hs2 := hgrow.size
  simp only [World.size_alloc] at hs2
  go_wp2
  go_ret
  refine ⟨rfl, ⟨.inr ?_, ?_⟩, ?_, HK.out.setCell _ _⟩
  · have hB2 := Lib.BuilderAt.put (T := 40) (e := 5) hB hb2 (bs' := Lib.byteCells l ++ [.int .u8 (c.toNat : Int)]) (by simpa using hown') (by decide)
    have e : Lib.byteCells (l ++ [c]) = Lib.byteCells l ++ [.int .u8 (c.toNat : Int)] := by simp [Lib.byteCells]
    rw [e]
    exact hB2
  · simp [World.setCell]; omega
  · exact ((hb1.alloc (by omega) _).grown hgrow (by simp; omega) (fun k hk => (hown.lt k hk).1)).setCell (p := ⟨b, 1, none⟩) hB _

theorem strCells_bytesN (s : ByteArray) : Lib.strCells s = Lib.byteCells (L s) := by unfold Lib.strCells Lib.byteCells L; rfl
theorem wpList_append_stringN {ops : Array Oper} {rest : List Oper} {o : Oper} {a : Act} {Q : Exit → Act → World → Prop} {w : World} (hgd : o.guard = none) (sl x : Operand)
    (ho : o.op = .call { callee := .builtin .append, args := #[sl, x], argTypes := #[38, 9] })
    (B : Nat) (v : Value) (n : Nat) (xs : List Value) (hs : a.eval sl = v) (hown : w.ownsRow B 5 1 v n xs) (s : ByteArray) (hx : a.eval x = .string s)
    (hbytes : n + s.size ≤ 140737488355328) (hbase : B ≤ w.heap.size)
    (h : ∀ v' w', w'.ownsRow B 5 1 v' (n + s.size) (xs ++ Lib.strCells s) → w.grownBy w' v.ownBlock → wpList Tryd.prog ops Q rest (a.put o.dst v') w') :
    wpList Tryd.prog ops Q (o :: rest) a w := by
  obtain ⟨i0, hi, hz0, hz1, hz2⟩ := info_parts byteInfo
  refine wpList_plain hgd fun K hK => ?_
  obtain ⟨v', w', hr, h2, h3, h4⟩ := Lib.run_append_own_string (P := Tryd.prog) w B 38 9 o.type 5 i0 Tryd.underlying38 Tryd.underlying9 hi hz0 hz1 hz2 v n xs hown s (by unfold maxLen; omega) hbytes hbase
  unfold Oper.wp execOp
  simp only [ho, resolve, invoke, builtin, Sem.run_bind, Sem.run_pure, Result.andThen_ok, List.map_toArray, List.map_cons, List.map_nil, hs, hx, hr]
  exact hK _ _ (h v' w' h2 h3)

set_option maxRecDepth 100000 in
theorem writeStringN_c (B b : Nat) (l : List UInt8) (s : ByteArray) (w : World) (h : Bld B b l w) (hlen : l.length + s.size ≤ 140737488355328) :
    Calls Tryd.prog 27 #[.pointer (some ⟨b, 0, none⟩), .string s] w fun e w' => e = .returned (.tuple #[.int .i64 s.size, .nilIface]) ∧ Bld B b (l ++ L s) w' ∧ Below B w w' ∧ NB b w w' := by
  obtain ⟨hI, hBw⟩ := h
  have hbl : (Lib.byteCells l).length + s.size ≤ 140737488355328 := by simp [Lib.byteCells]; omega
  clear hlen
  go_enter Tryd.func27, Tryd.ntmps27
  go_wp2_with (go_at_call 25; refine (copyCheckN_c B b _ _ hI).mono ?_)
  rintro e w1 ⟨rfl, h1, hb1, hsz, hk1⟩
  obtain ⟨hB, v, hbk, hown, hne⟩ := h1
  have c1 : w1.cell? ⟨b, 1, none⟩ = some v := by rw [Lib.cell_of_heap hbk]; rfl
  go_wp2_with (at_builtin; refine wpList_append_stringN rfl _ _ rfl B _ _ _ rfl hown s rfl ?c4 ?c5 ?_)
  case c4 => omega
  case c5 => omega
  intro v' w2 hown' hgrow
  have hlt : b < w1.heap.size := by
    rcases Nat.lt_or_ge b w1.heap.size with h' | h'
    · exact h'
    · simp [Array.getElem?_eq_none h'] at hbk
  have hb2 : w2.heap[b]? = some (.cells #[.pointer (some ⟨b, 0, none⟩), v] 40 (0, 0)) := by
    rw [hgrow.block b hlt (fun e => hne e.symm)]
    exact hbk
  have d1 : w2.cell? ⟨b, 1, none⟩ = some v := by rw [Lib.cell_of_heap hb2]; rfl
  have f1 : w2.frozen? ⟨b, 1, none⟩ = false := Lib.frozen_of_heap hb2 1
  have HK := Lib.hid (hk1.trans (NB.grown (b := b) hgrow hown))
  obtain ⟨ao, n', cap, rfl⟩ : ∃ ao n' cap, v' = .slice ao n' cap := by
    rcases hown'.2 with ⟨hv, _⟩ | ⟨g, cap, cur, hv, _⟩
    · exact ⟨_, _, _, hv⟩
    · exact ⟨_, _, _, hv⟩
  have hs2 := hgrow.size
  go_wp2
  go_ret2
  refine ⟨rfl, ⟨.inr ?_, ?_⟩, ?_, HK.out.setCell _ _⟩
  · have hB2 := Lib.BuilderAt.put (T := 40) (e := 5) hB hb2 (bs' := Lib.byteCells l ++ Lib.strCells s) (by simpa [Lib.strCells_length] using hown') (by decide)
    have e : Lib.byteCells (l ++ L s) = Lib.byteCells l ++ Lib.strCells s := by rw [strCells_bytesN]; simp [Lib.byteCells]
    rw [e]
    exact hB2
  · simp [World.setCell]; omega
  · exact (hb1.grown hgrow (by omega) (fun k hk => (hown.lt k hk).1)).setCell (p := ⟨b, 1, none⟩) hB _
end Go.Proofs.YtdoddigmfckhmaaDoor
