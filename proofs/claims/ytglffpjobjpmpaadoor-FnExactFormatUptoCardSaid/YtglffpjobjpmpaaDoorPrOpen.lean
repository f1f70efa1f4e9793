/-
  AN ARGUMENT OF TYPE []Pair, OPENED: what the row's reading says is what the walks ask ('Prs'), and its bulk bounds the texts' lengths.
-/
import Derived.Test.YtglffpjobjpmpaaDoorPair
import Derived.Deep.Slices
import Derived.Deep.Fields
import Derived.Lib.LaidU8
import Derived.Lib.Buffer
import Derived.Carry
import Derived.Test.YtglffpjobjpmpaaDoorRows
namespace Go.Proofs.YtglffpjobjpmpaaDoor
open Go.ChangeShapes Go.WideShapes Go.RowKit Go.Deep

/-- Where the type's fields lie. -/
theorem pairFields : (Tryd.prog.underlying 31).map (fun t => match t with | .struct fs => fs.toList.map (fun f => (f.type, f.offset)) | _ => []) = some [(9, 0), (9, 1)] := by kernel_rfl
theorem pairCells : Tryd.prog.cellsOf 31 = 2 := by kernel_rfl
theorem pairCell1 : Tryd.prog.cellsOf 9 = 1 := by kernel_rfl

set_option maxRecDepth 100000 in
theorem open_pair {H : Type} {enc : TypeId × Value → H} {w : World} {base : Nat} {spare : Nat → Bool} {held : Bool} {fuel : Nat} {cs : List Value} {x : DataW H × List MemPlace}
    (h : DataW.trod enc Tryd.prog w base spare held fuel 31 cs = some x) : ∃ y : Pr, cs = [.string y.n, .string y.v] ∧ Rows.uptoBulk x.1 = y.n.size + y.v.size + 3 := by
  have hf := pairFields
  cases hu : Tryd.prog.underlying 31 with
  | none => rw [hu] at hf; cases hf
  | some d =>
    rw [hu] at hf
    cases d with
    | struct fs =>
      simp only [Option.map_some, Option.some.injEq] at hf
      obtain ⟨xs, n, _, hx, hlen, hxl, hg⟩ := DataW.trod_struct hu h
      rw [pairCells] at hlen
      have hsz : fs.toList.length = 2 := by have := congrArg List.length hf; simpa using this
      match cs, hlen with
      | [c0, c1], _ =>
        obtain ⟨l⟩ := fs
        match l, hsz, hf with
        | [f0, f1], _, hf =>
          simp only [List.map_cons, List.map_nil, List.cons.injEq, Prod.mk.injEq, and_true] at hf
          obtain ⟨⟨t0, o0⟩, ⟨t1, o1⟩⟩ := hf
          match xs, hxl with
          | [y0, y1], _ =>
            have g0 := hg 0 f0 rfl
            have g1 := hg 1 f1 rfl
            rw [t0, o0, pairCell1] at g0
            rw [t1, o1, pairCell1] at g1
            obtain ⟨s0, e0, r0, _⟩ := DataW.trod_string Tryd.underlying9 g0
            obtain ⟨s1, e1, r1, _⟩ := DataW.trod_string Tryd.underlying9 g1
            refine ⟨⟨s0, s1⟩, ?_, ?_⟩
            · simp at e0 e1
              rw [e0, e1]
            · rw [hx, r0, r1]
              simp [Rows.uptoBulk, Rows.uptoBulkAll]
              omega
    | _ => simp at hf

theorem bulk_map {H : Type} (D : Nat → DataW H) (f : Nat → Pr) (L : List Nat) (h : ∀ i ∈ L, Rows.uptoBulk (D i) = (f i).n.size + (f i).v.size + 3) : Rows.uptoBulkAll (L.map D) = ((L.map f).map fun x => x.n.size + x.v.size).sum + 3 * L.length := by
  induction L with
  | nil => simp [Rows.uptoBulkAll]
  | cons i r ih =>
    have h1 := h i List.mem_cons_self
    have h2 := ih fun j hj => h j (List.mem_cons_of_mem _ hj)
    simp only [List.map_cons, Rows.uptoBulkAll, List.sum_cons, List.length_cons, h1, h2]
    omega
theorem pair_mem (l : List Pr) (y : Pr) (h : y ∈ l) : y.n.size + y.v.size ≤ (l.map fun x => x.n.size + x.v.size).sum := by
  induction l with
  | nil => cases h
  | cons x r ih =>
    rw [List.map_cons, List.sum_cons]
    rcases List.mem_cons.1 h with rfl | h
    · omega
    · have := ih h; omega

set_option maxRecDepth 100000 in
theorem open_pairs {H : Type} {enc : TypeId × Value → H} {w : World} {base base2 : Nat} {spare : Nat → Bool} {held : Bool} {v : Value} {d : DataW H} {p : List MemPlace}
    (hv : Value.okWide Tryd.prog w .any base2 28 v) (h : DataW.Trod enc Tryd.prog w base spare held 28 v d p) :
    ∃ l : List Pr, Prs v l w ∧ (l.map fun x => x.n.size + x.v.size).sum + l.length ≤ Rows.uptoBulk d := by
  obtain ⟨a0, len0, cap0, rfl⟩ := okWide_slice Tryd.underlying28 hv
  obtain ⟨fuel, hf⟩ := h
  rcases open_slice Tryd.underlying28 hf with ⟨hcs, _⟩ | ⟨a, len, cap, m, n, D, Pl, hcs, _, hl, hm, hmm, hx, hi⟩
  · obtain ⟨rfl, rfl, rfl⟩ : a0 = none ∧ len0 = 0 ∧ cap0 = 0 := by cases hcs; exact ⟨rfl, rfl, rfl⟩
    exact ⟨[], ⟨none, 0, rfl, Nat.le_refl _, Nat.zero_le _, .inl rfl⟩, Nat.zero_le _⟩
  · obtain ⟨rfl, rfl, rfl⟩ : a0 = some a ∧ len0 = len ∧ cap0 = cap := by cases hcs; exact ⟨rfl, rfl, rfl⟩
    have hlm : len0 ≤ m := by rw [hmm]; split <;> omega
    have each : ∀ i, ∃ y : Pr, i < len0 → w.cell? (a.add (i * 2)) = some (.string y.n) ∧ w.cell? ((a.add (i * 2)).add 1) = some (.string y.v) ∧ Rows.uptoBulk (D i) = y.n.size + y.v.size + 3 := by
      intro i
      by_cases h : i < len0
      · obtain ⟨cs', hc, ht⟩ := hi i (by omega)
        rw [pairCells] at hc
        obtain ⟨y, rfl, hy⟩ := open_pair ht
        obtain ⟨_, _, hat⟩ := World.cells?_some hc
        have h0 := hat 0 (by omega)
        have h1 := hat 1 (by omega)
        exact ⟨y, fun _ => ⟨by simpa [Addr.add] using h0, by simpa using h1, hy⟩⟩
      · exact ⟨⟨⟨#[]⟩, ⟨#[]⟩⟩, fun h' => absurd h' h⟩
    obtain ⟨f, hfx⟩ := Classical.axiomOfChoice each
    refine ⟨(List.range len0).map f, ⟨some a, cap0, by simp, by simpa using hl, hm, ?_⟩, ?_⟩
    · by_cases h0 : len0 = 0
      · subst h0; exact .inl rfl
      · have hz := (hfx 0 (by omega)).1
        obtain ⟨g, o, sp⟩ := a
        have hz' : w.cell? ⟨g, o, sp⟩ = some (.string (f 0).n) := by simpa [Addr.add] using hz
        obtain rfl := cell_spot hz'
        refine .inr ⟨g, o, rfl, ?_, ?_⟩
        · rcases Nat.lt_or_ge g w.heap.size with h1 | h1
          · exact h1
          · unfold World.cell? at hz'
            simp [Array.getElem?_eq_none h1] at hz'
        · intro i x hix
          have hil : i < len0 := by have := (List.getElem?_eq_some_iff.1 hix).1; simpa using this
          have hx : f i = x := by simpa [hil] using hix
          subst hx
          obtain ⟨q0, q1, _⟩ := hfx i hil
          simp only [Lib.addr_add] at q0 q1
          exact ⟨q0, q1⟩
    · have hd : d = .slice ((List.range len0).map D) ((List.range (m - len0)).map fun j => D (len0 + j)) := congrArg Prod.fst hx
      have hb := bulk_map D f (List.range len0) fun i hi => (hfx i (by simpa using hi)).2.2
      rw [hd]
      simp only [Rows.uptoBulk, hb, List.length_map, List.length_range]
      omega
end Go.Proofs.YtglffpjobjpmpaaDoor
