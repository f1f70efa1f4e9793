/-
  THE PLAIN LAW OF FnWords: what encoded words are, and that words joined by blanks pass the specification; in plain Lean, no program in sight.
-/
import Derived.Test.YtdoddigmfckhmaaDoorWrd
import Derived.Test.YtdoddigmfckhmaaDoorB64
import Derived.Test.YtdoddigmfckhmaaDoorCap
namespace Go.Proofs.YtdoddigmfckhmaaDoor
open Go.RowKit

/-- What stands between two contents: the end of a word, a blank, the head of the next one. -/
def sepL (cs : List UInt8) (e : UInt8) : List UInt8 := [63, 61, 32] ++ headL cs e
/-- Contents that are closed, each with what stands behind it. -/
def closedL (sep : List UInt8) (ds : List (List UInt8)) : List UInt8 := ds.flatMap (· ++ sep)
theorem closedL_snoc (sep d : List UInt8) (ds : List (List UInt8)) : closedL sep (ds ++ [d]) = closedL sep ds ++ d ++ sep := by simp [closedL]
/-- A byte that may stand in a word's content. -/
def okB (q : Bool) (c : UInt8) : Bool := decide (33 ≤ c.toNat) && decide (c.toNat ≤ 126) && !(c == 63) && (q || c == 61 || tab64.contains c)
def okC (q : Bool) (c : List UInt8) : Prop := 1 ≤ c.length ∧ c.length ≤ 63 ∧ ∀ x ∈ c, okB q x = true
theorem dig_ok : ∀ i : Fin 64, okB false (dig i.val) = true := by decide +kernel
theorem b64_ok (l : List UInt8) : ∀ c ∈ b64 l, okB false c = true := by
  have D : ∀ n, okB false (dig (n % 64)) = true := fun n => dig_ok ⟨n % 64, by omega⟩
  have E : okB false 61 = true := by decide
  induction l using b64.induct with
  | case1 => intro c h; cases h
  | case2 a =>
    intro c h
    simp only [b64, List.mem_cons, List.not_mem_nil, or_false] at h
    rcases h with rfl | rfl | rfl | rfl
    · exact D _
    · exact D _
    · exact E
    · exact E
  | case3 a b =>
    intro c h
    simp only [b64, List.mem_cons, List.not_mem_nil, or_false] at h
    rcases h with rfl | rfl | rfl | rfl
    · exact D _
    · exact D _
    · exact D _
    · exact E
  | case4 a b c r ih =>
    intro x h
    rw [b64, List.mem_append] at h
    rcases h with h | h
    · simp only [q4, List.mem_cons, List.not_mem_nil, or_false] at h
      rcases h with rfl | rfl | rfl | rfl
      · exact D _
      · exact D _
      · exact D _
      · exact D _
    · exact ih x h
theorem b64_okC (l : List UInt8) (h1 : 1 ≤ l.length) (h2 : l.length ≤ 45) : okC false (b64 l) := ⟨by rw [b64_len]; omega, by rw [b64_len]; omega, b64_ok l⟩

/-- The text of words: head, content, end; blanks between. -/
def wordL (cs : List UInt8) (e : UInt8) (c : List UInt8) : List UInt8 := headL cs e ++ c ++ [63, 61]
def joinW : List (List UInt8) → List UInt8
  | [] => []
  | [w] => w
  | w :: r => w ++ 32 :: joinW r
theorem joinW_cons (w : List UInt8) (r : List (List UInt8)) (h : r ≠ []) : joinW (w :: r) = w ++ 32 :: joinW r := by
  match r, h with
  | a :: r, _ => rfl
/-- What the encoder writes, as words. -/
theorem words_of (cs : List UInt8) (e : UInt8) (ds : List (List UInt8)) (d : List UInt8) : headL cs e ++ closedL (sepL cs e) ds ++ d ++ [63, 61] = joinW ((ds ++ [d]).map (wordL cs e)) := by
  induction ds with
  | nil => simp [closedL, joinW, wordL]
  | cons a r ih =>
    rw [List.cons_append, List.map_cons, joinW_cons _ _ (by simp), ← ih]
    simp [closedL, sepL, wordL]
end Go.Proofs.YtdoddigmfckhmaaDoor
