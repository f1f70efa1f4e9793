/-
  AN ARGUMENT OF TYPE []Item, OPENED: what the row's reading says is what the walks ask ('Items'), and its bulk bounds the texts' lengths.
-/
import Derived.Test.YtlapehcngmiaaaaDoorItem
import Derived.Deep.Slices
import Derived.Deep.Fields
import Derived.Lib.LaidU8
import Derived.Lib.Buffer
import Derived.Carry
import Derived.Test.YtlapehcngmiaaaaDoorRows
namespace Go.Proofs.YtlapehcngmiaaaaDoor
open Go.ChangeShapes Go.WideShapes Go.RowKit Go.Deep

/-- Where the type's fields lie. -/
theorem itemFields : (Tryd.prog.underlying 49).map (fun t => match t with | .struct fs => fs.toList.map (fun f => (f.type, f.offset)) | _ => []) = some [(4, 0), (4, 1), (9, 2)] := by kernel_rfl
theorem itemCells : Tryd.prog.cellsOf 49 = 3 := by kernel_rfl
theorem itemCell1 : Tryd.prog.cellsOf 4 = 1 := by kernel_rfl
theorem itemCell2 : Tryd.prog.cellsOf 9 = 1 := by kernel_rfl

set_option maxRecDepth 100000 in
theorem open_item {H : Type} {enc : TypeId × Value → H} {w : World} {base : Nat} {spare : Nat → Bool} {held : Bool} {fuel : Nat} {cs : List Value} {x : DataW H × List MemPlace}
    (h : DataW.trod enc Tryd.prog w base spare held fuel 49 cs = some x) : ∃ y : It, cs = [.bool y.wd, .bool y.q, .string y.s] ∧ Rows.uptoBulk x.1 = y.s.size + 4 := by
  have hf := itemFields
  cases hu : Tryd.prog.underlying 49 with
  | none => rw [hu] at hf; cases hf
  | some d =>
    rw [hu] at hf
    cases d with
    | struct fs =>
      simp only [Option.map_some, Option.some.injEq] at hf
      obtain ⟨xs, n, _, hx, hlen, hxl, hg⟩ := DataW.trod_struct hu h
      rw [itemCells] at hlen
      have hsz : fs.toList.length = 3 := by have := congrArg List.length hf; simpa using this
      match cs, hlen with
      | [c0, c1, c2], _ =>
        obtain ⟨l⟩ := fs
        match l, hsz, hf with
        | [f0, f1, f2], _, hf =>
          simp only [List.map_cons, List.map_nil, List.cons.injEq, Prod.mk.injEq, and_true] at hf
          obtain ⟨⟨t0, o0⟩, ⟨t1, o1⟩, ⟨t2, o2⟩⟩ := hf
          match xs, hxl with
          | [y0, y1, y2], _ =>
            have g0 := hg 0 f0 rfl
            have g1 := hg 1 f1 rfl
            have g2 := hg 2 f2 rfl
            rw [t0, o0, itemCell1] at g0
            rw [t1, o1, itemCell1] at g1
            rw [t2, o2, itemCell2] at g2
            obtain ⟨b0, e0, r0⟩ := DataW.trod_bool Tryd.underlying4 g0
            obtain ⟨b1, e1, r1⟩ := DataW.trod_bool Tryd.underlying4 g1
            obtain ⟨s2, e2, r2, _⟩ := DataW.trod_string Tryd.underlying9 g2
            refine ⟨⟨b0, b1, s2⟩, ?_, ?_⟩
            · simp at e0 e1 e2
              rw [e0, e1, e2]
            · rw [hx, r0, r1, r2]
              simp [Rows.uptoBulk, Rows.uptoBulkAll]
              omega
    | _ => simp at hf

theorem bulk_map {H : Type} (D : Nat → DataW H) (f : Nat → It) (L : List Nat) (h : ∀ i ∈ L, Rows.uptoBulk (D i) = (f i).s.size + 4) : Rows.uptoBulkAll (L.map D) = ((L.map f).map fun x => x.s.size).sum + 4 * L.length := by
  induction L with
  | nil => simp [Rows.uptoBulkAll]
  | cons i r ih =>
    have h1 := h i List.mem_cons_self
    have h2 := ih fun j hj => h j (List.mem_cons_of_mem _ hj)
    simp only [List.map_cons, Rows.uptoBulkAll, List.sum_cons, List.length_cons, h1, h2]
    omega

set_option maxRecDepth 100000 in
theorem open_items {H : Type} {enc : TypeId × Value → H} {w : World} {base base2 : Nat} {spare : Nat → Bool} {held : Bool} {v : Value} {d : DataW H} {p : List MemPlace}
    (hv : Value.okWide Tryd.prog w .any base2 33 v) (h : DataW.Trod enc Tryd.prog w base spare held 33 v d p) :
    ∃ l : List It, Items v l w ∧ (l.map fun x => x.s.size).sum + l.length ≤ Rows.uptoBulk d := by
  obtain ⟨a0, len0, cap0, rfl⟩ := okWide_slice Tryd.underlying33 hv
  obtain ⟨fuel, hf⟩ := h
  rcases open_slice Tryd.underlying33 hf with ⟨hcs, _⟩ | ⟨a, len, cap, m, n, D, Pl, hcs, _, hl, hm, hmm, hx, hi⟩
  · obtain ⟨rfl, rfl, rfl⟩ : a0 = none ∧ len0 = 0 ∧ cap0 = 0 := by cases hcs; exact ⟨rfl, rfl, rfl⟩
    exact ⟨[], ⟨none, 0, rfl, Nat.le_refl _, Nat.zero_le _, .inl rfl⟩, Nat.zero_le _⟩
  · obtain ⟨rfl, rfl, rfl⟩ : a0 = some a ∧ len0 = len ∧ cap0 = cap := by cases hcs; exact ⟨rfl, rfl, rfl⟩
    have hlm : len0 ≤ m := by rw [hmm]; split <;> omega
    have each : ∀ i, ∃ y : It, i < len0 → w.cell? (a.add (i * 3)) = some (.bool y.wd) ∧ w.cell? ((a.add (i * 3)).add 1) = some (.bool y.q) ∧ w.cell? ((a.add (i * 3)).add 2) = some (.string y.s) ∧ Rows.uptoBulk (D i) = y.s.size + 4 := by
      intro i
      by_cases h : i < len0
      · obtain ⟨cs', hc, ht⟩ := hi i (by omega)
        rw [itemCells] at hc
        obtain ⟨y, rfl, hy⟩ := open_item ht
        obtain ⟨_, _, hat⟩ := World.cells?_some hc
        have h0 := hat 0 (by omega)
        have h1 := hat 1 (by omega)
        have h2 := hat 2 (by omega)
        exact ⟨y, fun _ => ⟨by simpa [Addr.add] using h0, by simpa using h1, by simpa using h2, hy⟩⟩
      · exact ⟨⟨false, false, ⟨#[]⟩⟩, fun h' => absurd h' h⟩
    obtain ⟨f, hfx⟩ := Classical.axiomOfChoice each
    refine ⟨(List.range len0).map f, ⟨some a, cap0, by simp, by simpa using hl, hm, ?_⟩, ?_⟩
    · by_cases h0 : len0 = 0
      · subst h0; exact .inl rfl
      · have hz := (hfx 0 (by omega)).1
        obtain ⟨g, o, sp⟩ := a
        have hz' : w.cell? ⟨g, o, sp⟩ = some (.bool (f 0).wd) := by simpa [Addr.add] using hz
        obtain rfl := cell_spot hz'
        refine .inr ⟨g, o, rfl, ?_, ?_⟩
        · rcases Nat.lt_or_ge g w.heap.size with h1 | h1
          · exact h1
          · unfold World.cell? at hz'
            simp [Array.getElem?_eq_none h1] at hz'
        · intro i x hix
          have hil : i < len0 := by have := (List.getElem?_eq_some_iff.1 hix).1; simpa using this
          have hx : f i = x := by simpa [hil] using hix
          subst hx
          obtain ⟨q0, q1, q2, _⟩ := hfx i hil
          simp only [Lib.addr_add] at q0 q1 q2
          exact ⟨q0, q1, q2⟩
    · have hd : d = .slice ((List.range len0).map D) ((List.range (m - len0)).map fun j => D (len0 + j)) := congrArg Prod.fst hx
      have hb := bulk_map D f (List.range len0) fun i hi => (hfx i (by simpa using hi)).2.2.2
      rw [hd]
      simp only [Rows.uptoBulk, hb, List.length_map, List.length_range]
      omega
end Go.Proofs.YtlapehcngmiaaaaDoor
