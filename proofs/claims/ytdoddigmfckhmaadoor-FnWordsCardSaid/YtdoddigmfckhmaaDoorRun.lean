/-
  OF utf8.DecodeRuneInString THE WIDTH ALONE: from one byte to four, and no more than are there.
-/
import Derived.Test.YtdoddigmfckhmaaDoorIsU
namespace Go.Proofs.YtdoddigmfckhmaaDoor
open Go.RowKit

theorem dec_width (s : ByteArray) (h : 0 < s.size) : 1 ≤ (Lib.decodeGo s).2 ∧ (Lib.decodeGo s).2 ≤ 4 ∧ (Lib.decodeGo s).2 ≤ s.size := by
  unfold Lib.decodeGo
  rw [if_neg (by omega)]
  unfold Utf8.decode
  simp only [Nat.zero_add]
  split
  · exact ⟨by simp, by simp, h⟩
  · split
    · rename_i hc
      simp only [Bool.and_eq_true, decide_eq_true_eq] at hc
      split
      · exact ⟨by simp, by simp, by show 2 ≤ s.size; omega⟩
      · exact ⟨by simp, by simp, h⟩
    · split
      · rename_i hc
        simp only [Bool.and_eq_true, decide_eq_true_eq] at hc
        split
        · exact ⟨by simp, by simp, by show 3 ≤ s.size; omega⟩
        · exact ⟨by simp, by simp, h⟩
      · split
        · rename_i hc
          simp only [Bool.and_eq_true, decide_eq_true_eq] at hc
          split
          · exact ⟨by simp, by simp, by show 4 ≤ s.size; omega⟩
          · exact ⟨by simp, by simp, h⟩
        · exact ⟨by simp, by simp, h⟩

/-- The tables of unicode/utf8 stand where what lay below B stands. -/
def Tabs (w : World) : Prop := Lib.Utf8Tabs 0 1 w
theorem Tabs.lt {w : World} (h : Tabs w) : 0 < w.heap.size ∧ 1 < w.heap.size := by
  constructor
  · have := h.1 0 (by omega)
    rcases Nat.lt_or_ge 0 w.heap.size with h1 | h1
    · exact h1
    · unfold World.cell? at this; rw [Array.getElem?_eq_none h1] at this; cases this
  · have := (h.2 0 (by omega)).1
    rcases Nat.lt_or_ge 1 w.heap.size with h1 | h1
    · exact h1
    · unfold World.cell? at this; rw [Array.getElem?_eq_none h1] at this; cases this
theorem Tabs.keep {B : Nat} {w w' : World} (h : Tabs w) (hb : Below B w w') (h0 : 0 < B) (h1 : 1 < B) : Tabs w' :=
  ⟨fun c hc => by rw [hb.cell (p := ⟨0, c, none⟩) h0]; exact h.1 c hc, fun i hi => ⟨by rw [hb.cell (p := ⟨1, 2 * i, none⟩) h1]; exact (h.2 i hi).1, by rw [hb.cell (p := ⟨1, 2 * i + 1, none⟩) h1]; exact (h.2 i hi).2⟩⟩
theorem Tabs.below {w w' : World} (h : Tabs w) (hb : Below w.heap.size w w') : Tabs w' := h.keep hb h.lt.1 h.lt.2

def RunePost (s : ByteArray) (w : World) (e : Ending) (w' : World) : Prop := ∃ (r : Int) (k : Nat), e = .returned (.tuple #[.int .i32 r, .int .i64 (k : Int)]) ∧ 1 ≤ k ∧ k ≤ 4 ∧ k ≤ s.size ∧ Below w.heap.size w w'
theorem rune_c (s : ByteArray) (w : World) (hT : Tabs w) (hs : 0 < s.size) : Calls Tryd.prog 33 #[.string s] w (RunePost s w) :=
  (Tryd.utf8_DecodeRuneInString s w hT).mono fun _ _ ⟨h1, h2⟩ => ⟨_, _, h1, (dec_width s hs).1, (dec_width s hs).2.1, (dec_width s hs).2.2, h2⟩
end Go.Proofs.YtdoddigmfckhmaaDoor
