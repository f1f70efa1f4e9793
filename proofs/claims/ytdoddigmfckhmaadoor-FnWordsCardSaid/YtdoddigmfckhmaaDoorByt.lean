/-
  A []byte OF THE CALL's OWN: append of one byte, string(b), its world; for fewer than 2 to the 47th bytes.
-/
import Derived.Test.YtdoddigmfckhmaaDoorBase
import Derived.Test.YtdoddigmfckhmaaDoorRows
import Derived.Maps.AppendAt
import Derived.Lib.UnsafeStr
import Derived.Laws.IdiomStrings
import Derived.Lib.Builder
namespace Go.Proofs.YtdoddigmfckhmaaDoor
open Go.RowKit

theorem byteRow : (Tryd.prog.info? 5).map (fun i => (i.zero, i.size, i.bytes)) = some (some (.int .u8 0), 1, 1) := by kernel_rfl

/-- v is a slice of bytes that lies in memory of the call's own (from block B on), or nil, and holds the bytes l. -/
def Own (B : Nat) (v : Value) (l : List UInt8) (w : World) : Prop := w.ownsRow B 5 1 v l.length (Lib.byteCells l) ∧ B ≤ w.heap.size

theorem Own.nil (w : World) : Own w.heap.size (.slice none 0 0) [] w := ⟨World.ownsRow_nil _ _ _ _, Nat.le_refl _⟩
theorem Own.nil' {w : World} {B : Nat} (h : B ≤ w.heap.size) : Own B (.slice none 0 0) [] w := ⟨World.ownsRow_nil _ _ _ _, h⟩
theorem Own.below {B : Nat} {v : Value} {l : List UInt8} {w w' : World} (h : Own B v l w) (hb : Below w.heap.size w w') : Own B v l w' := ⟨own_below h.1 hb, Nat.le_trans h.2 hb.size⟩
theorem Own.drew {B : Nat} {v : Value} {l : List UInt8} {w : World} (h : Own B v l w) : Own B v l w.drew := h
theorem Own.drewN {B : Nat} {v : Value} {l : List UInt8} {w : World} (h : Own B v l w) (n : Nat) : Own B v l (w.drewN n) := h
theorem Own.alloc {B : Nat} {v : Value} {l : List UInt8} {w : World} (h : Own B v l w) (o : Obj) : Own B v l (w.alloc o) := ⟨h.1.alloc o, by have := h.2; simp; omega⟩

/-- What the value looks like. -/
theorem Own.form {B : Nat} {v : Value} {l : List UInt8} {w : World} (h : Own B v l w) : ∃ p c, v = .slice p l.length c ∧ l.length ≤ c ∧ c ≤ maxLen ∧ (l = [] ∨ ∃ g, p = some ⟨g, 0, none⟩) := by
  rcases h.1.2 with ⟨rfl, h0⟩ | ⟨g, cap, cur, hv, _, _, h1, h2, _⟩
  · have : l = [] := List.eq_nil_of_length_eq_zero h0
    exact ⟨none, 0, by rw [h0], by omega, by simp [maxLen], .inl this⟩
  · exact ⟨_, cap, hv, h1, h2, .inr ⟨g, rfl⟩⟩

/-- A new row of one byte: the composite '[]byte{c}'. -/
theorem own_one (w : World) (c : UInt8) : Own w.heap.size (.slice (some ⟨w.heap.size, 0, none⟩) 1 1) [c] (w.alloc (.cells #[.int .u8 (c.toNat : Int)] 5)) :=
  ⟨⟨by simp [Lib.byteCells], .inr ⟨w.heap.size, 1, #[.int .u8 (c.toNat : Int)], rfl, Nat.le_refl _, heap_alloc_new w _, by simp, by simp [maxLen], by simp, by simp [Lib.byteCells]⟩⟩, by simp⟩

theorem byteCells_oneCell (l : List UInt8) : ∀ u ∈ Lib.byteCells l, u.oneCell' = true := by
  intro u hu
  simp only [Lib.byteCells, List.mem_map] at hu
  obtain ⟨b, _, rfl⟩ := hu
  rfl
theorem byteCells_append (l c : List UInt8) : Lib.byteCells (l ++ c) = Lib.byteCells l ++ Lib.byteCells c := by simp [Lib.byteCells]
theorem byteCells_snoc (l : List UInt8) (c : UInt8) : Lib.byteCells (l ++ [c]) = Lib.byteCells l ++ [.int .u8 (c.toNat : Int)] := by simp [Lib.byteCells]

/-- 'append(out, c)': the byte lies in a new block (number H), as the walk lays it. -/
theorem append_byte {ops : Array Oper} {rest : List Oper} {o : Oper} {a : Act} {Q : Exit → Act → World → Prop} {w : World} (hgd : o.guard = none) (s x : Operand)
    (ho : o.op = .call { callee := .builtin .append, args := #[s, x], argTypes := #[38, 38] })
    (B : Nat) (v : Value) (l : List UInt8) (c : UInt8) (hs : a.eval s = v) (hown : Own B v l w) (hx : a.eval x = .slice (some ⟨w.heap.size, 0, none⟩) 1 1)
    (hlen : l.length + 1 ≤ 140737488355328)
    (h : ∀ v' w', Own B v' (l ++ [c]) w' → Below B w w' → w.heap.size ≤ w'.heap.size → wpList Tryd.prog ops Q rest (a.put o.dst v') w') :
    wpList Tryd.prog ops Q (o :: rest) a (w.alloc (.cells #[.int .u8 (c.toNat : Int)] 5)) := by
  obtain ⟨i0, hi, hz0, hz1, hz2⟩ := info_parts byteRow
  refine wpList_append_own _ hgd s x 38 ho B 5 i0 (.int .u8 0) 1 1 Tryd.underlying38 hi hz0 hz1 hz2 rfl (by decide) v l.length (Lib.byteCells l) hs (hown.1.alloc _) ⟨w.heap.size, 0, none⟩ 1 1 [.int .u8 (c.toNat : Int)] hx rfl ?_ ?_ (by unfold maxLen; omega) (by omega) (by have := hown.2; simp; omega) ?_
  · intro j u hj
    match j, hj with
    | 0, hj => simp at hj; subst hj; simp [Addr.add]
  · intro u hu; simp at hu; subst hu; rfl
  · intro v' w' hown' hgrow _
    have hsz := hgrow.size
    simp only [World.size_alloc] at hsz
    refine h v' w' ⟨?_, by have := hown.2; omega⟩ (((Below.refl B w).alloc hown.2 _).grown hgrow (by have := hown.2; simp; omega) (fun k hk => (hown.1.lt k hk).1)) (by omega)
    rw [byteCells_snoc]
    simpa using hown'

/-- .. the same as a step of a region that draws its order. -/
theorem step_append_byte {ops : Array Oper} {o : Oper} {a : Act} {K : Act → World → Prop} {Q : Exit → Act → World → Prop} {E : Prop} {w : World} (hgd : o.guard = none) (s x : Operand)
    (ho : o.op = .call { callee := .builtin .append, args := #[s, x], argTypes := #[38, 38] })
    (B : Nat) (v : Value) (l : List UInt8) (c : UInt8) (hs : a.eval s = v) (hown : Own B v l w) (hx : a.eval x = .slice (some ⟨w.heap.size, 0, none⟩) 1 1)
    (hlen : l.length + 1 ≤ 140737488355328)
    (h : ∀ v' w', Own B v' (l ++ [c]) w' → Below B w w' → w.heap.size ≤ w'.heap.size → K (a.put o.dst v') w') :
    if Region.wanted o (yielded ops a.tmps) = true then Oper.wp Tryd.prog o a (w.alloc (.cells #[.int .u8 (c.toNat : Int)] 5)) K Q else E := by
  rw [if_pos (by simp [Region.wanted, hgd])]
  obtain ⟨i0, hi, hz0, hz1, hz2⟩ := info_parts byteRow
  refine wp_append_own _ s x 38 ho B 5 i0 (.int .u8 0) 1 1 Tryd.underlying38 hi hz0 hz1 hz2 rfl (by decide) v l.length (Lib.byteCells l) hs (hown.1.alloc _) ⟨w.heap.size, 0, none⟩ 1 1 [.int .u8 (c.toNat : Int)] hx rfl ?_ ?_ (by unfold maxLen; omega) (by omega) (by have := hown.2; simp; omega) ?_
  · intro j u hj
    match j, hj with
    | 0, hj => simp at hj; subst hj; simp [Addr.add]
  · intro u hu; simp at hu; subst hu; rfl
  · intro v' w' hown' hgrow _
    have hsz := hgrow.size
    simp only [World.size_alloc] at hsz
    refine h v' w' ⟨?_, by have := hown.2; omega⟩ (((Below.refl B w).alloc hown.2 _).grown hgrow (by have := hown.2; simp; omega) (fun k hk => (hown.1.lt k hk).1)) (by omega)
    rw [byteCells_snoc]
    simpa using hown'

/-- .. and of several new bytes (a composite of them lies in the new block). -/
theorem append_bytes {ops : Array Oper} {rest : List Oper} {o : Oper} {a : Act} {Q : Exit → Act → World → Prop} {w : World} (hgd : o.guard = none) (s x : Operand)
    (ho : o.op = .call { callee := .builtin .append, args := #[s, x], argTypes := #[38, 38] })
    (B : Nat) (v : Value) (l cs : List UInt8) (arr : Array Value) (harr : arr.toList = Lib.byteCells cs) (n : Nat) (hn : n = cs.length) (hs : a.eval s = v) (hown : Own B v l w) (hx : a.eval x = .slice (some ⟨w.heap.size, 0, none⟩) n n)
    (hlen : l.length + cs.length ≤ 140737488355328)
    (h : ∀ v' w', Own B v' (l ++ cs) w' → Below B w w' → w.heap.size ≤ w'.heap.size → wpList Tryd.prog ops Q rest (a.put o.dst v') w') :
    wpList Tryd.prog ops Q (o :: rest) a (w.alloc (.cells arr 5)) := by
  subst hn
  obtain ⟨i0, hi, hz0, hz1, hz2⟩ := info_parts byteRow
  have hcl : (Lib.byteCells cs).length = cs.length := by simp [Lib.byteCells]
  refine wpList_append_own _ hgd s x 38 ho B 5 i0 (.int .u8 0) 1 1 Tryd.underlying38 hi hz0 hz1 hz2 rfl (by decide) v l.length (Lib.byteCells l) hs (hown.1.alloc _) ⟨w.heap.size, 0, none⟩ cs.length cs.length (Lib.byteCells cs) hx (by rw [hcl, Nat.mul_one]) ?_ (byteCells_oneCell cs) (by unfold maxLen; omega) (by omega) (by have := hown.2; simp; omega) ?_
  · intro j u hj
    have e : ((⟨w.heap.size, 0, none⟩ : Addr).add j) = ⟨w.heap.size, j, none⟩ := by simp only [Addr.add]; split <;> simp_all
    rw [e, Lib.cell_of_heap (heap_alloc_new w _), ← Array.getElem?_toList, harr]
    exact hj
  · intro v' w' hown' hgrow _
    have hsz := hgrow.size
    simp only [World.size_alloc] at hsz
    refine h v' w' ⟨?_, by have := hown.2; omega⟩ (((Below.refl B w).alloc hown.2 _).grown hgrow (by have := hown.2; simp; omega) (fun k hk => (hown.1.lt k hk).1)) (by omega)
    rw [byteCells_append]
    simpa using hown'
theorem step_append_bytes {ops : Array Oper} {o : Oper} {a : Act} {K : Act → World → Prop} {Q : Exit → Act → World → Prop} {E : Prop} {w : World} (hgd : o.guard = none) (s x : Operand)
    (ho : o.op = .call { callee := .builtin .append, args := #[s, x], argTypes := #[38, 38] })
    (B : Nat) (v : Value) (l cs : List UInt8) (arr : Array Value) (harr : arr.toList = Lib.byteCells cs) (n : Nat) (hn : n = cs.length) (hs : a.eval s = v) (hown : Own B v l w) (hx : a.eval x = .slice (some ⟨w.heap.size, 0, none⟩) n n)
    (hlen : l.length + cs.length ≤ 140737488355328)
    (h : ∀ v' w', Own B v' (l ++ cs) w' → Below B w w' → w.heap.size ≤ w'.heap.size → K (a.put o.dst v') w') :
    if Region.wanted o (yielded ops a.tmps) = true then Oper.wp Tryd.prog o a (w.alloc (.cells arr 5)) K Q else E := by
  subst hn
  rw [if_pos (by simp [Region.wanted, hgd])]
  obtain ⟨i0, hi, hz0, hz1, hz2⟩ := info_parts byteRow
  have hcl : (Lib.byteCells cs).length = cs.length := by simp [Lib.byteCells]
  refine wp_append_own _ s x 38 ho B 5 i0 (.int .u8 0) 1 1 Tryd.underlying38 hi hz0 hz1 hz2 rfl (by decide) v l.length (Lib.byteCells l) hs (hown.1.alloc _) ⟨w.heap.size, 0, none⟩ cs.length cs.length (Lib.byteCells cs) hx (by rw [hcl, Nat.mul_one]) ?_ (byteCells_oneCell cs) (by unfold maxLen; omega) (by omega) (by have := hown.2; simp; omega) ?_
  · intro j u hj
    have e : ((⟨w.heap.size, 0, none⟩ : Addr).add j) = ⟨w.heap.size, j, none⟩ := by simp only [Addr.add]; split <;> simp_all
    rw [e, Lib.cell_of_heap (heap_alloc_new w _), ← Array.getElem?_toList, harr]
    exact hj
  · intro v' w' hown' hgrow _
    have hsz := hgrow.size
    simp only [World.size_alloc] at hsz
    refine h v' w' ⟨?_, by have := hown.2; omega⟩ (((Below.refl B w).alloc hown.2 _).grown hgrow (by have := hown.2; simp; omega) (fun k hk => (hown.1.lt k hk).1)) (by omega)
    rw [byteCells_append]
    simpa using hown'

/-- 'string(b)' of such a slice, an equation for the walk. -/
theorem own_string {B : Nat} {v : Value} {l : List UInt8} {w : World} (h : Own B v l w) : (convert 38 9 v).run Tryd.prog w = .ok (.string ⟨l.toArray⟩) w := by
  rcases h.1.2 with ⟨rfl, h0⟩ | ⟨g, cap, cur, hv, _, hcur, h1, h2, h3, h4⟩
  · have : l = [] := List.eq_nil_of_length_eq_zero h0
    subst this
    rw [run_convert_bytes_string w 38 9 5 none 0 0 Tryd.underlying38 Tryd.underlying5 Tryd.underlying9]
    rfl
  · subst hv
    refine run_convert_bytes_back w 38 9 5 ⟨g, 0, none⟩ cap l Tryd.underlying38 Tryd.underlying5 Tryd.underlying9 ?_
    intro j hj
    exact h.1.cells (g := g) rfl j _ (by simp [Lib.byteCells, hj])
end Go.Proofs.YtdoddigmfckhmaaDoor
