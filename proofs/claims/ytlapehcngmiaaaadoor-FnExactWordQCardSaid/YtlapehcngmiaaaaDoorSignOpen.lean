/-
  AN ARGUMENT OF TYPE []Sign, OPENED: what the row's reading says is what the walks ask ('Signs').
-/
import Derived.Test.YtlapehcngmiaaaaDoorSign
import Derived.Deep.Slices
import Derived.Deep.Fields
import Derived.Lib.LaidU8
import Derived.Lib.Buffer
import Derived.Carry
namespace Go.Proofs.YtlapehcngmiaaaaDoor
open Go.ChangeShapes Go.WideShapes Go.RowKit Go.Deep

/-- Where the type's fields lie. -/
theorem signFields : (Tryd.prog.underlying 46).map (fun t => match t with | .struct fs => fs.toList.map (fun f => (f.type, f.offset)) | _ => []) = some [(5, 0), (4, 1), (4, 2)] := by kernel_rfl
theorem signCells : Tryd.prog.cellsOf 46 = 3 := by kernel_rfl
theorem signCell0 : Tryd.prog.cellsOf 5 = 1 := by kernel_rfl
theorem signCell1 : Tryd.prog.cellsOf 4 = 1 := by kernel_rfl

set_option maxRecDepth 100000 in
theorem open_sign {H : Type} {enc : TypeId × Value → H} {w : World} {base : Nat} {spare : Nat → Bool} {held : Bool} {fuel : Nat} {cs : List Value} {x : DataW H × List MemPlace}
    (h : DataW.trod enc Tryd.prog w base spare held fuel 46 cs = some x) : ∃ y : Sg, cs = [.int .u8 y.b.toNat, .bool y.esc, .bool y.sm] := by
  have hf := signFields
  cases hu : Tryd.prog.underlying 46 with
  | none => rw [hu] at hf; cases hf
  | some d =>
    rw [hu] at hf
    cases d with
    | struct fs =>
      simp only [Option.map_some, Option.some.injEq] at hf
      obtain ⟨xs, n, _, _, hlen, hxl, hg⟩ := DataW.trod_struct hu h
      rw [signCells] at hlen
      have hsz : fs.toList.length = 3 := by have := congrArg List.length hf; simpa using this
      match cs, hlen with
      | [c0, c1, c2], _ =>
        obtain ⟨l⟩ := fs
        match l, hsz, hf with
        | [f0, f1, f2], _, hf =>
          simp only [List.map_cons, List.map_nil, List.cons.injEq, Prod.mk.injEq, and_true] at hf
          obtain ⟨⟨t0, o0⟩, ⟨t1, o1⟩, ⟨t2, o2⟩⟩ := hf
          match xs, hxl with
          | [y0, y1, y2], _ =>
            have g0 := hg 0 f0 rfl
            have g1 := hg 1 f1 rfl
            have g2 := hg 2 f2 rfl
            rw [t0, o0, signCell0] at g0
            rw [t1, o1, signCell1] at g1
            rw [t2, o2, signCell1] at g2
            obtain ⟨k, e0, _, hw⟩ := DataW.trod_int Tryd.underlying5 g0
            obtain ⟨b1, e1, _⟩ := DataW.trod_bool Tryd.underlying4 g1
            obtain ⟨b2, e2, _⟩ := DataW.trod_bool Tryd.underlying4 g2
            have bd : 0 ≤ k ∧ k ≤ 255 := by simpa [Lit.wf, IntKind.min, IntKind.max, IntKind.signed, IntKind.bits] using hw
            obtain ⟨b, rfl⟩ := byte_of k bd.1 bd.2
            refine ⟨⟨b, b1, b2⟩, ?_⟩
            simp at e0 e1 e2
            rw [e0, e1, e2]
    | _ => simp at hf

set_option maxRecDepth 100000 in
theorem open_signs {H : Type} {enc : TypeId × Value → H} {w : World} {base base2 : Nat} {spare : Nat → Bool} {held : Bool} {v : Value} {d : DataW H} {p : List MemPlace}
    (hv : Value.okWide Tryd.prog w .any base2 30 v) (h : DataW.Trod enc Tryd.prog w base spare held 30 v d p) :
    ∃ l : List Sg, Signs v l w ∧ l.length ≤ maxLen := by
  obtain ⟨a0, len0, cap0, rfl⟩ := okWide_slice Tryd.underlying30 hv
  obtain ⟨fuel, hf⟩ := h
  rcases open_slice Tryd.underlying30 hf with ⟨hcs, _⟩ | ⟨a, len, cap, m, n, D, Pl, hcs, _, hl, hm, hmm, _, hi⟩
  · obtain ⟨rfl, rfl, rfl⟩ : a0 = none ∧ len0 = 0 ∧ cap0 = 0 := by cases hcs; exact ⟨rfl, rfl, rfl⟩
    exact ⟨[], ⟨none, 0, rfl, Nat.le_refl _, Nat.zero_le _, .inl rfl⟩, Nat.zero_le _⟩
  · obtain ⟨rfl, rfl, rfl⟩ : a0 = some a ∧ len0 = len ∧ cap0 = cap := by cases hcs; exact ⟨rfl, rfl, rfl⟩
    have hlm : len0 ≤ m := by rw [hmm]; split <;> omega
    have each : ∀ i, ∃ y : Sg, i < len0 → w.cell? (a.add (i * 3)) = some (.int .u8 y.b.toNat) ∧ w.cell? ((a.add (i * 3)).add 1) = some (.bool y.esc) ∧ w.cell? ((a.add (i * 3)).add 2) = some (.bool y.sm) := by
      intro i
      by_cases h : i < len0
      · obtain ⟨cs', hc, ht⟩ := hi i (by omega)
        rw [signCells] at hc
        obtain ⟨y, rfl⟩ := open_sign ht
        obtain ⟨_, _, hat⟩ := World.cells?_some hc
        have h0 := hat 0 (by omega)
        have h1 := hat 1 (by omega)
        have h2 := hat 2 (by omega)
        exact ⟨y, fun _ => ⟨by simpa [Addr.add] using h0, by simpa using h1, by simpa using h2⟩⟩
      · exact ⟨⟨0, false, false⟩, fun h' => absurd h' h⟩
    obtain ⟨f, hfx⟩ := Classical.axiomOfChoice each
    refine ⟨(List.range len0).map f, ⟨some a, cap0, by simp, by simpa using hl, hm, ?_⟩, by simp; omega⟩
    by_cases h0 : len0 = 0
    · subst h0; exact .inl rfl
    · have hz := (hfx 0 (by omega)).1
      obtain ⟨g, o, sp⟩ := a
      have hz' : w.cell? ⟨g, o, sp⟩ = some (.int .u8 (f 0).b.toNat) := by simpa [Addr.add] using hz
      obtain rfl := cell_spot hz'
      refine .inr ⟨g, o, rfl, ?_, ?_⟩
      · rcases Nat.lt_or_ge g w.heap.size with h1 | h1
        · exact h1
        · unfold World.cell? at hz'
          simp [Array.getElem?_eq_none h1] at hz'
      · intro i x hix
        have hil : i < len0 := by have := (List.getElem?_eq_some_iff.1 hix).1; simpa using this
        have hx : f i = x := by simpa [hil] using hix
        subst hx
        have := hfx i hil
        simp only [Lib.addr_add] at this
        exact this
end Go.Proofs.YtlapehcngmiaaaaDoor
