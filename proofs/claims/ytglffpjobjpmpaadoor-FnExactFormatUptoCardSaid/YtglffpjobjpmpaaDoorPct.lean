/-
  CONTRACT OF spec's Percent: each percent sign with two digits is a byte, another percent sign is refused; for every text of at most 2 to the 40th bytes.
-/
import Derived.Test.YtglffpjobjpmpaaDoorHex
import Derived.Test.YtglffpjobjpmpaaDoorByt
import Derived.Deep.RegionLaw
import Derived.Deep.DrawnRows
import Derived.IntWalk
namespace Go.Proofs.YtglffpjobjpmpaaDoor
open Go.RowKit
attribute [local go_sem ↓] Go.wp_at_zero Go.wp_at_succ

def hex2 : List UInt8 → Bool
  | a :: b :: _ => isHex a && isHex b
  | _ => false
def hexAt : List UInt8 → UInt8
  | a :: b :: _ => hexByte a b
  | _ => 0
/-- The percent decoding; the number says how many bytes are passed over. -/
def pctS : Nat → List UInt8 → Option (List UInt8)
  | _, [] => some []
  | k + 1, _ :: r => pctS k r
  | 0, c :: r => if c = 37 then (if hex2 r = true then (pctS 2 r).map (hexAt r :: ·) else none) else (pctS 0 r).map (c :: ·)
def pct (l : List UInt8) : Option (List UInt8) := pctS 0 l

theorem pct_nil : pct [] = some [] := rfl
theorem pct_plain (c : UInt8) (r : List UInt8) (h : c ≠ 37) : pct (c :: r) = (pct r).map (c :: ·) := by
  unfold pct; rw [pctS, if_neg h]
theorem pct_bad (r : List UInt8) (h : hex2 r = false) : pct (37 :: r) = none := by
  unfold pct; rw [pctS, if_pos rfl, if_neg (by simp [h])]
theorem pct_hex (a b : UInt8) (r : List UInt8) (ha : isHex a = true) (hb : isHex b = true) : pct (37 :: a :: b :: r) = (pct r).map (hexByte a b :: ·) := by
  unfold pct; rw [pctS, if_pos rfl, if_pos (by simp [hex2, ha, hb])]; rfl
theorem map_map_snoc (acc : List UInt8) (c : UInt8) (o : Option (List UInt8)) : (o.map (c :: ·)).map (acc ++ ·) = o.map ((acc ++ [c]) ++ ·) := by
  cases o <;> simp

/-- What Percent returns. -/
def pctPair : Option (List UInt8) → Value
  | some l => .tuple #[.string ⟨l.toArray⟩, .bool true]
  | none => .tuple #[.string ⟨#[]⟩, .bool false]

end Go.Proofs.YtglffpjobjpmpaaDoor
