/-
  WHAT A WALK CARRIES OF A BUILDER: what it holds, and what stands as it stood.
-/
import Derived.Test.YtdoddigmfckhmaaDoorBN
namespace Go.Proofs.YtdoddigmfckhmaaDoor
open Go.RowKit

theorem Bld.below {B b : Nat} {l : List UInt8} {w w' : World} (h : Bld B b l w) (hb : Below w.heap.size w w') : Bld B b l w' := by
  obtain ⟨hI, hBw⟩ := h
  have key : ∀ p0, Lib.BuilderAt 40 5 B b p0 (Lib.byteCells l) w → Lib.BuilderAt 40 5 B b p0 (Lib.byteCells l) w' := by
    intro p0 h0
    have hlt := h0.lt
    obtain ⟨hB, v0, hb0, hown, hne⟩ := h0
    exact ⟨hB, v0, by rw [hb.block b hlt]; exact hb0, own_below hown hb, hne⟩
  exact ⟨hI.elim (fun h => .inl (key _ h)) (fun h => .inr (key _ h)), Nat.le_trans hBw hb.size⟩

/-- From world w0 on: the builder in block b holds acc; below B all stands, and of the rest each block of cells that are no bytes. -/
structure St (B b : Nat) (acc : List UInt8) (w0 w : World) : Prop where
  bld : Bld B b acc w
  nb : NB b w0 w
  bel : Below B w0 w
theorem St.start {B b : Nat} {acc : List UInt8} {w : World} (h : Bld B b acc w) : St B b acc w w := ⟨h, NB.refl _ _, Below.refl _ _⟩
theorem St.makes {B b : Nat} {acc : List UInt8} {w0 w w' : World} (h : St B b acc w0 w) (hb : Below w.heap.size w w') : St B b acc w0 w' :=
  ⟨h.bld.below hb, h.nb.trans (NB.below hb), h.bel.trans (hb.mono h.bld.2)⟩
theorem stByte {B b : Nat} {acc : List UInt8} {w0 w : World} (h : St B b acc w0 w) (c : UInt8) (hlen : acc.length + 1 ≤ 140737488355328) :
    Calls Tryd.prog 28 #[.pointer (some ⟨b, 0, none⟩), .int .u8 c.toNat] w fun e w' => e = .returned .nilIface ∧ St B b (acc ++ [c]) w0 w' :=
  (writeByteN_c B b acc c w h.bld hlen).mono fun _ _ ⟨e, h1, h2, h3⟩ => ⟨e, h1, h.nb.trans h3, h.bel.trans h2⟩
theorem stString {B b : Nat} {acc : List UInt8} {w0 w : World} (h : St B b acc w0 w) (s : ByteArray) (hlen : acc.length + s.size ≤ 140737488355328) :
    Calls Tryd.prog 27 #[.pointer (some ⟨b, 0, none⟩), .string s] w fun e w' => e = .returned (.tuple #[.int .i64 s.size, .nilIface]) ∧ St B b (acc ++ L s) w0 w' :=
  (writeStringN_c B b acc s w h.bld hlen).mono fun _ _ ⟨e, h1, h2, h3⟩ => ⟨e, h1, h.nb.trans h3, h.bel.trans h2⟩
theorem stMakes {B b : Nat} {acc : List UInt8} {w0 w : World} {P : Program} {f : FuncId} {args : Array Value} {v : Value} (h : St B b acc w0 w) (hc : Calls P f args w (Makes v w)) :
    Calls P f args w fun e w' => e = .returned v ∧ St B b acc w0 w' :=
  hc.mono fun _ _ ⟨e, h1⟩ => ⟨e, h.makes h1⟩

end Go.Proofs.YtdoddigmfckhmaaDoor
