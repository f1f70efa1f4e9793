/-
  PLAIN WORDS AND LEMMAS that all texts of this seat share: a string's bytes as a list, the shapes of the contracts, endings; no program in sight, no condition.
-/
import Derived.WalkKit
import Derived.Lib.Hide
import Derived.Lib.IndexBytes
import Derived.Deep.Draws
namespace Go.Proofs.YtdoddigmfckhmaaDoor
open Go.RowKit

/-- A string's bytes. -/
def L (s : ByteArray) : List UInt8 := s.data.toList
/-- A call that only computes: it returns v, the world is as it was. -/
def Pure (v : Value) (w : World) (e : Ending) (w' : World) : Prop := e = .returned v ∧ w = w'
/-- A call that makes memory: it returns v, what lay there lies as it did. -/
def Makes (v : Value) (w : World) (e : Ending) (w' : World) : Prop := e = .returned v ∧ Below w.heap.size w w'

/-- A call that only reads: it returns v, nothing but the count of draws has moved. -/
def Quiet (v : Value) (w : World) (e : Ending) (w' : World) : Prop := e = .returned v ∧ ∃ n, w' = w.drewN n

theorem L_length (s : ByteArray) : (L s).length = s.size := by unfold L; simp
theorem L_drop (s : ByteArray) (k : Nat) (h : k < s.size) : (L s).drop k = s[k] :: (L s).drop (k + 1) := by
  unfold L
  rw [List.drop_eq_getElem_cons (by simpa using h)]
  rfl
theorem L_drop_end (s : ByteArray) (k : Nat) (h : ¬ k < s.size) : (L s).drop k = [] := List.drop_eq_nil_of_le (by rw [L_length]; omega)
theorem L_zero (s : ByteArray) : (L s).drop 0 = L s := rfl

theorem ret_bool {a b : Bool} (h : a = b) : Ending.returned (.bool a) = .returned (.bool b) := by rw [h]
theorem ret_int {k : IntKind} {a b : Int} (h : a = b) : Ending.returned (.int k a) = .returned (.int k b) := by rw [h]
theorem ret_str {a b : ByteArray} (h : a = b) : Ending.returned (.string a) = .returned (.string b) := by rw [h]

theorem Pure.makes {v : Value} {w : World} {e : Ending} {w' : World} (h : Pure v w e w') : Makes v w e w' := ⟨h.1, by rw [← h.2]; exact Below.refl _ _⟩

theorem drewN_below (w : World) (n : Nat) : Below w.heap.size w (w.drewN n) := ⟨rfl, rfl, rfl, Nat.le_refl _, fun _ _ => rfl⟩
theorem below_drewN {B : Nat} {a w : World} (h : Below B a w) (n : Nat) : Below B a (w.drewN n) := ⟨h.os, h.tape, h.output, h.size, h.block⟩
theorem Quiet.makes {v : Value} {w : World} {e : Ending} {w' : World} (h : Quiet v w e w') : Makes v w e w' := by
  obtain ⟨h1, n, rfl⟩ := h
  exact ⟨h1, drewN_below w n⟩
theorem Pure.quiet {v : Value} {w : World} {e : Ending} {w' : World} (h : Pure v w e w') : Quiet v w e w' := ⟨h.1, 0, by rw [← h.2]; rfl⟩
theorem still_of {P : Program} {f : FuncId} {args : Array Value} {w : World} {v : Value} (h : Calls P f args w (Pure v w)) : Calls P f args w fun e w' => e = .returned v ∧ w' = w := h.mono fun _ _ h => ⟨h.1, h.2.symm⟩
/-- What came in is owned still behind a call that makes memory alone. -/
theorem own_below {w w' : World} {base : Nat} {e : TypeId} {size : Nat} {v : Value} {n : Nat} {xs : List Value} (h : w.ownsRow base e size v n xs) (hb : Below w.heap.size w w') : w'.ownsRow base e size v n xs :=
  h.kept (row := none) ⟨hb.os, hb.tape, hb.output, hb.size, fun k hk _ => hb.block k hk⟩ (by
    cases hv : v.ownBlock with
    | none => exact .inl rfl
    | some k => exact .inr (by simp))

/-! ### Texts as lists of bytes -/
theorem extract_L (s : ByteArray) (a b : Nat) : L (s.extract a b) = ((L s).drop a).take (b - a) := by unfold L; exact Lib.extract_data s a b
theorem L_to (s : ByteArray) (k : Nat) : L (s.extract 0 k) = (L s).take k := by rw [extract_L]; simp
theorem L_from (s : ByteArray) (k : Nat) : L (s.extract k s.size) = (L s).drop k := by
  rw [extract_L]
  apply List.take_of_length_le
  rw [List.length_drop, L_length]
  exact Nat.le_refl _
theorem L_inj {a b : ByteArray} (h : L a = L b) : a = b := by
  unfold L at h
  obtain ⟨⟨x⟩⟩ := a
  obtain ⟨⟨y⟩⟩ := b
  simp only at h
  rw [h]
theorem extract_all (s : ByteArray) : s.extract 0 s.size = s := L_inj (by rw [L_to, ← L_length, List.take_length])
theorem extract_none (s : ByteArray) : s.extract s.size s.size = ⟨#[]⟩ := L_inj (by rw [L_from, ← L_length, List.drop_length]; rfl)
theorem L_mk (l : List UInt8) : L ⟨l.toArray⟩ = l := by unfold L; simp
theorem mk_L (s : ByteArray) : (⟨(L s).toArray⟩ : ByteArray) = s := L_inj (L_mk _)
theorem L_head (s : ByteArray) (h : 0 < s.size) : L s = s[0] :: (L s).drop 1 := by
  have := L_drop s 0 h
  rwa [List.drop_zero] at this
theorem head_of (s : ByteArray) {c : UInt8} {r : List UInt8} (h : L s = c :: r) : ∃ h0 : 0 < s.size, s[0] = c := by
  have h0 : 0 < s.size := by rw [← L_length, h]; simp
  refine ⟨h0, ?_⟩
  have := L_head s h0
  rw [h] at this
  exact (List.cons.inj this).1.symm
theorem not_empty (s : ByteArray) (h0 : 0 < s.size) : s.toList.isEmpty = false := by
  have := L_length s
  have e : s.toList = L s := by unfold L; exact Lib.toList_data s
  rw [e]
  cases h : L s with
  | nil => rw [h] at this; simp at this; omega
  | cons a r => rfl
/-- A text by its bytes. -/
theorem text_of (l : List UInt8) : ∃ q : ByteArray, L q = l ∧ q.size = l.length := ⟨⟨l.toArray⟩, L_mk l, by rw [← L_length, L_mk]⟩
theorem toList_L (s : ByteArray) : s.toList = L s := by unfold L; exact Lib.toList_data s
theorem append_L (a b : ByteArray) : L (a ++ b) = L a ++ L b := by unfold L; simp [ByteArray.data_append]

/-- A number that fits a byte is a byte's. -/
theorem byte_of (n : Int) (h0 : 0 ≤ n) (h1 : n ≤ 255) : ∃ b : UInt8, n = (b.toNat : Int) :=
  ⟨UInt8.ofNat n.toNat, by rw [UInt8.toNat_ofNat_of_lt' (by simp [UInt8.size]; omega)]; omega⟩
theorem byte_eq (a b : UInt8) : (((a.toNat : Int)) == (b.toNat : Int)) = (a == b) := by
  rw [Bool.eq_iff_iff]
  simp only [beq_iff_eq, Int.ofNat_inj]
  exact ⟨UInt8.toNat_inj.1, fun h => by rw [h]⟩
theorem wrap_byte (c : UInt8) : IntKind.u8.wrap (c.toNat : Int) = (c.toNat : Int) := by
  have := c.toNat_lt
  simp only [IntKind.wrap, IntKind.signed, IntKind.bits]
  simp
  omega
theorem beq_yes (a b : UInt8) (n : Int) (hn : (b.toNat : Int) = n) (h : a = b) : ((a.toNat : Int) == n) = true := by rw [h, hn]; exact beq_self_eq_true _
theorem beq_no (a b : UInt8) (n : Int) (hn : (b.toNat : Int) = n) (h : ¬ a = b) : ((a.toNat : Int) == n) = false := by
  rw [← hn, byte_eq]; exact beq_eq_false_iff_ne.2 h
theorem bne_yes (a b : UInt8) (n : Int) (hn : (b.toNat : Int) = n) (h : a = b) : ((a.toNat : Int) != n) = false := by rw [bne, beq_yes a b n hn h]; rfl
theorem bne_no (a b : UInt8) (n : Int) (hn : (b.toNat : Int) = n) (h : ¬ a = b) : ((a.toNat : Int) != n) = true := by rw [bne, beq_no a b n hn h]; rfl
end Go.Proofs.YtdoddigmfckhmaaDoor
