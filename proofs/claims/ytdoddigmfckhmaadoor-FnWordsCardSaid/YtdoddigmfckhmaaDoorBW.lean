/-
  CONTRACT OF strings.Builder's Write on a builder of the call's own, with what it leaves alone.
-/
import Derived.Test.YtdoddigmfckhmaaDoorSt
import Derived.Test.YtdoddigmfckhmaaDoorByt
import Derived.Test.YtdoddigmfckhmaaDoorEnco
import Derived.Lib.ConvBytes
import Derived.Laws.CopyRow
import Derived.Maps.AppendAt
namespace Go.Proofs.YtdoddigmfckhmaaDoor
open Go.RowKit

/-- Block g is another one than the builder's (b) and than its row of bytes. -/
def Off (b g : Nat) (w : World) : Prop := g < w.heap.size ∧ g ≠ b ∧ ∀ p v T fr, w.heap[b]? = some (.cells #[p, v] T fr) → v.ownBlock ≠ some g
/-- Each such block stands as it stood, and is such a one still. -/
def OffKept (b : Nat) (w w' : World) : Prop := ∀ g, Off b g w → w'.heap[g]? = w.heap[g]? ∧ Off b g w'
theorem OffKept.refl (b : Nat) (w : World) : OffKept b w w := fun _ h => ⟨rfl, h⟩
theorem OffKept.trans {b : Nat} {w1 w2 w3 : World} (h : OffKept b w1 w2) (k : OffKept b w2 w3) : OffKept b w1 w3 := fun g hg => by
  obtain ⟨h1, h2⟩ := h g hg
  obtain ⟨k1, k2⟩ := k g h2
  exact ⟨k1.trans h1, k2⟩
theorem OffKept.drew {b : Nat} {w w' : World} (h : OffKept b w w') : OffKept b w w'.drew := h

theorem copyCheckNO_c (B b : Nat) (bs : List Value) (w : World) (h : Lib.IsBuilder 40 5 B b bs w) :
    Calls Tryd.prog 25 #[.pointer (some ⟨b, 0, none⟩)] w fun e w' => e = .returned (.tuple #[]) ∧ Lib.BuilderAt 40 5 B b (.pointer (some ⟨b, 0, none⟩)) bs w' ∧ Below B w w' ∧ w.heap.size ≤ w'.heap.size ∧ NB b w w' ∧ OffKept b w w' := by
  rcases h with h | h
  · refine (copyCheck_fresh b w h.cell0 h.shape h.frozen0).mono ?_
    rintro e w' ⟨rfl, rfl⟩
    refine ⟨rfl, h.used _, (Below.refl B w).setCell (p := ⟨b, 0, none⟩) h.1 _, by simp [World.setCell], (NB.refl b w).setCell _ _, ?_⟩
    intro g ⟨hg, hne, hro⟩
    obtain ⟨hB, v0, hb0, hown0, hv0⟩ := h
    have hro' := hro _ _ _ _ hb0
    refine ⟨Below.heap_setCell _ _ _ _ (fun e => hne e), by simp [World.setCell]; exact hg, hne, ?_⟩
    intro p v T fr hb
    have : (w.setCell ⟨b, 0, none⟩ (.pointer (some ⟨b, 0, none⟩))).heap[b]? = some (.cells #[.pointer (some ⟨b, 0, none⟩), v0] 40 (0, 0)) := by
      simp [World.setCell, Array.getElem?_modify, hb0]
    rw [this] at hb
    simp only [Option.some.injEq, Obj.cells.injEq] at hb
    have h2 := hb.1
    simp at h2
    rw [← h2.2]
    exact hro'
  · refine (copyCheck_used b w h.cell0).mono ?_
    rintro e w' ⟨rfl, rfl⟩
    exact ⟨rfl, h, Below.refl B _, Nat.le_refl _, NB.refl b _, OffKept.refl _ _⟩

/-- What became of the builder's block and the others, once a new buffer is laid into it. -/
theorem off_put {b : Nat} {p v v' : Value} {w1 w2 : World} {T : TypeId} (hbk : w1.heap[b]? = some (.cells #[p, v] T (0, 0))) (hb2 : w2.heap[b]? = some (.cells #[p, v] T (0, 0))) (hgrow : w1.grownBy w2 v.ownBlock)
    (hloc : v'.ownBlock = v.ownBlock ∨ v'.ownBlock = some w1.heap.size) : OffKept b w1 (w2.setCell ⟨b, 1, none⟩ v') := by
  intro g ⟨hg, hne, hro⟩
  have hro' := hro _ _ _ _ hbk
  have hsz := hgrow.size
  refine ⟨?_, by simp [World.setCell]; omega, hne, ?_⟩
  · rw [Below.heap_setCell _ _ _ _ (fun e => hne e)]
    exact hgrow.block g hg (fun e => hro' e.symm)
  · intro p' u T' fr hb
    have : (w2.setCell ⟨b, 1, none⟩ v').heap[b]? = some (.cells #[p, v'] T (0, 0)) := by simp [World.setCell, Array.getElem?_modify, hb2]
    rw [this] at hb
    simp only [Option.some.injEq, Obj.cells.injEq] at hb
    have h2 := hb.1
    simp at h2
    rw [← h2.2]
    rcases hloc with e | e
    · rw [e]; exact hro'
    · rw [e]; intro e2; simp at e2; omega


theorem Lie.of_heap {g o : Nat} {x : List UInt8} {w w' : World} (h : Lie g o x w) (e : w'.heap[g]? = w.heap[g]?) : Lie g o x w' := fun j c hj => by
  have := h j c hj
  unfold World.cell? at this ⊢
  rw [e]
  exact this

set_option maxRecDepth 100000 in
theorem writeNO_c (B b g o m c : Nat) (l x : List UInt8) (w : World) (h : Bld B b l w) (hg : g ≠ b) (cs : Array Value) (T : TypeId) (fr : Nat × Nat) (hT : T ≠ 5) (hgk : w.heap[g]? = some (.cells cs T fr)) (hx : Lie g o x w) (hm : m = x.length) (hlen : l.length + x.length ≤ 140737488355328) :
    Calls Tryd.prog 60 #[.pointer (some ⟨b, 0, none⟩), .slice (some ⟨g, o, none⟩) m c] w fun e w' => e = .returned (.tuple #[.int .i64 m, .nilIface]) ∧ Bld B b (l ++ x) w' ∧ Below B w w' ∧ NB b w w' ∧ OffKept b w w' := by
  obtain ⟨hI, hBw⟩ := h
  have hbl : (Lib.byteCells l).length + x.length ≤ 140737488355328 := by simp [Lib.byteCells]; omega
  clear hlen
  have hm1 : m ≤ x.length := by omega
  have hm2 : x.length ≤ m := by omega
  have HM := Lib.hid hm
  clear hm
  obtain ⟨i0, hi, hz0, hz1, hz2⟩ := info_parts byteInfo
  go_enter Tryd.func60, Tryd.ntmps60
  go_wp2_with (go_at_call 25; refine (copyCheckNO_c B b _ _ hI).mono ?_)
  rintro e w1 ⟨rfl, h1, hb1, hsz, hn1, hk1⟩
  obtain ⟨hB, v, hbk, hown, hne⟩ := h1
  have hx1 := hx.of_heap (w' := w1) (by rw [hn1 g _ _ _ hg hT hgk, hgk])
  have c1 : w1.cell? ⟨b, 1, none⟩ = some v := by rw [Lib.cell_of_heap hbk]; rfl
  go_wp2_with (at_builtin; refine wpList_append_own_at _ rfl _ _ 38 rfl B 5 i0 (.int .u8 0) 1 1 Tryd.underlying38 hi hz0 hz1 hz2 rfl (by decide) _ _ _ rfl hown ⟨g, o, none⟩ m c (Lib.byteCells x) rfl (by simp [Lib.byteCells]; omega) ?c1 (byteCells_oneCell x) ?c3 ?c4 ?c5 ?_)
  case c1 =>
    intro j u hj
    have e1 : ((⟨g, o, none⟩ : Addr).add j) = ⟨g, o + j, none⟩ := by simp only [Addr.add]; split <;> simp_all
    rw [e1]
    simp only [Lib.byteCells, List.getElem?_map, Option.map_eq_some_iff] at hj
    obtain ⟨c', hc', rfl⟩ := hj
    exact hx1 j c' hc'
  case c3 => unfold maxLen; omega
  case c4 => omega
  case c5 => omega
  intro v' w2 hown' hgrow _ hloc
  have hlt : b < w1.heap.size := by
    rcases Nat.lt_or_ge b w1.heap.size with h' | h'
    · exact h'
    · simp [Array.getElem?_eq_none h'] at hbk
  have hb2 : w2.heap[b]? = some (.cells #[.pointer (some ⟨b, 0, none⟩), v] 40 (0, 0)) := by
    rw [hgrow.block b hlt (fun e => hne e.symm)]
    exact hbk
  have d1 : w2.cell? ⟨b, 1, none⟩ = some v := by rw [Lib.cell_of_heap hb2]; rfl
  have f1 : w2.frozen? ⟨b, 1, none⟩ = false := Lib.frozen_of_heap hb2 1
  have HK := Lib.hid (hn1.trans (NB.grown (b := b) hgrow hown))
  have HF := Lib.hid (hk1.trans (off_put (v' := v') hbk hb2 hgrow hloc))
  obtain ⟨ao, n', cap, rfl⟩ : ∃ ao n' cap, v' = .slice ao n' cap := by
    rcases hown'.2 with ⟨hv, _⟩ | ⟨g, cap, cur, hv, _⟩
    · exact ⟨_, _, _, hv⟩
    · exact ⟨_, _, _, hv⟩
  have hs2 := hgrow.size
  clear hloc
  go_wp2
  go_ret2
  refine ⟨rfl, ⟨.inr ?_, ?_⟩, ?_, HK.out.setCell _ _, HF.out⟩
  · have hB2 := Lib.BuilderAt.put (T := 40) (e := 5) hB hb2 (bs' := Lib.byteCells l ++ Lib.byteCells x) (by rw [HM.out] at hown'; simpa [Lib.byteCells] using hown') (by decide)
    rw [byteCells_append]
    exact hB2
  · simp [World.setCell]; omega
  · exact (hb1.grown hgrow (by omega) (fun k hk => (hown.lt k hk).1)).setCell (p := ⟨b, 1, none⟩) hB _

/-- The builder stands where another block of another type has turned. -/
theorem Bld.only {B b d : Nat} {l : List UInt8} {w w' : World} (h : Bld B b l w) (ho : Only d w w') (hd : d ≠ b) (cs : Array Value) (T : TypeId) (fr : Nat × Nat) (hT : T ≠ 5) (hgk : w.heap[d]? = some (.cells cs T fr)) : Bld B b l w' := by
  obtain ⟨hI, hBw⟩ := h
  have key : ∀ p0, Lib.BuilderAt 40 5 B b p0 (Lib.byteCells l) w → Lib.BuilderAt 40 5 B b p0 (Lib.byteCells l) w' := by
    intro p0 h0
    have hlt := h0.lt
    obtain ⟨hB, v0, hb0, hown, hne⟩ := h0
    refine ⟨hB, v0, by rw [ho.2.2.2.2 b hlt (fun e => hd e.symm)]; exact hb0, ?_, hne⟩
    refine hown.kept (row := some d) ⟨ho.1, ho.2.1, ho.2.2.1, ho.2.2.2.1, fun k hk hne => ho.2.2.2.2 k hk (fun e => hne (by rw [e]))⟩ ?_
    rcases hown.2 with ⟨rfl, _⟩ | ⟨g', cap, cur, rfl, _, hcur, _⟩
    · exact .inl rfl
    · refine .inr (fun e => ?_)
      simp only [Value.ownBlock, Option.some.injEq] at e
      subst e
      rw [hgk] at hcur
      simp only [Option.some.injEq, Obj.cells.injEq] at hcur
      exact hT hcur.2.1
  exact ⟨hI.elim (fun h => .inl (key _ h)) (fun h => .inr (key _ h)), Nat.le_trans hBw ho.2.2.2.1⟩
theorem NB.only {b d : Nat} {w w' : World} (ho : Only d w w') (hd : w.heap.size ≤ d) : NB b w w' := fun g cs T fr _ _ h3 => by
  have hg : g < w.heap.size := by
    rcases Nat.lt_or_ge g w.heap.size with h1 | h1
    · exact h1
    · rw [Array.getElem?_eq_none h1] at h3; cases h3
  rw [ho.2.2.2.2 g hg (by omega)]; exact h3
/-- A block that was made since w0 turns: what is said from w0 on stands. -/
theorem St.only {B b d : Nat} {acc : List UInt8} {w0 w w' : World} (h : St B b acc w0 w) (ho : Only d w w') (hd : d ≠ b) (h0 : w0.heap.size ≤ d) (hB : B ≤ d) (cs : Array Value) (T : TypeId) (fr : Nat × Nat) (hT : T ≠ 5) (hgk : w.heap[d]? = some (.cells cs T fr)) : St B b acc w0 w' := by
  refine ⟨h.bld.only ho hd cs T fr hT hgk, ?_, ?_⟩
  · intro g cs' T' fr' h1 h2 h3
    have hk := h.nb g cs' T' fr' h1 h2 h3
    have hg : g < w0.heap.size := by
      rcases Nat.lt_or_ge g w0.heap.size with h1 | h1
      · exact h1
      · rw [Array.getElem?_eq_none h1] at h3; cases h3
    have hg2 : g < w.heap.size := by
      rcases Nat.lt_or_ge g w.heap.size with h1 | h1
      · exact h1
      · rw [Array.getElem?_eq_none h1] at hk; cases hk
    rw [ho.2.2.2.2 g hg2 (by omega)]; exact hk
  · refine h.bel.trans (ho.below hB ?_)
    rcases Nat.lt_or_ge d w.heap.size with h1 | h1
    · exact h1
    · rw [Array.getElem?_eq_none h1] at hgk; cases hgk
/-- A row that is made now is none of the builder's. -/
theorem Bld.off_new {B b g : Nat} {l : List UInt8} {w w' : World} (h : Bld B b l w) (hb : Below w.heap.size w w') (hg : w.heap.size ≤ g) (hg' : g < w'.heap.size) : Off b g w' := by
  obtain ⟨hI, hBw⟩ := h
  have key : ∀ p0, Lib.BuilderAt 40 5 B b p0 (Lib.byteCells l) w → Off b g w' := by
    intro p0 h0
    have hlt := h0.lt
    obtain ⟨hB, v0, hb0, hown, hne⟩ := h0
    refine ⟨hg', by omega, ?_⟩
    intro p v T fr hbk
    rw [hb.block b hlt, hb0] at hbk
    simp only [Option.some.injEq, Obj.cells.injEq] at hbk
    have h2 := hbk.1
    simp at h2
    rw [← h2.2]
    intro e
    have := hown.lt g e
    omega
  exact hI.elim (key _) (key _)
end Go.Proofs.YtdoddigmfckhmaaDoor
