/-
  CONTRACTS OF THE FUNCTIONS ON TEXTS THAT ONLY READ: spec's Printable, tokenEnd, Token, IsToken; mime's needsEncoding, consumeToken, isToken, and the thin functions over them: each returns the plain value of Lean, for every text of at most 2 to the 62nd bytes.
-/
import Derived.Test.YtdoddigmfckhmaaDoorTok
import Derived.Deep.QuietTactic
import Derived.BigQuiet
import Derived.Laws.IdiomStrings
namespace Go.Proofs.YtdoddigmfckhmaaDoor
open Go.RowKit

/-- A printable byte, or a tab. -/
def prB (b : UInt8) : Bool := (decide (32 ≤ b) && decide (b ≤ 126)) || b == 9
def allB (p : UInt8 → Bool) : List UInt8 → Bool
  | [] => true
  | c :: r => if p c then allB p r else false
def tokN : List UInt8 → Nat
  | [] => 0
  | c :: r => if tokB c then tokN r + 1 else 0

theorem prB_yes (b : UInt8) (h : (32 : Int) ≤ b.toNat ∧ (b.toNat : Int) ≤ 126 ∨ (b.toNat : Int) = 9) : prB b = true := by
  simp only [prB, Bool.or_eq_true, Bool.and_eq_true, decide_eq_true_eq, beq_iff_eq, UInt8.le_iff_toNat_le]
  rcases h with ⟨h1, h2⟩ | h
  · exact .inl ⟨by show (32 : Nat) ≤ _; omega, by show _ ≤ (126 : Nat); omega⟩
  · exact .inr (UInt8.toNat_inj.1 (by show _ = (9 : Nat); omega))
theorem prB_no (b : UInt8) (h1 : (b.toNat : Int) < 32 ∨ 126 < (b.toNat : Int)) (h2 : ¬ (b.toNat : Int) = 9) : prB b = false := by
  rw [Bool.eq_false_iff]
  intro h
  simp only [prB, Bool.or_eq_true, Bool.and_eq_true, decide_eq_true_eq, beq_iff_eq, UInt8.le_iff_toNat_le] at h
  rcases h with ⟨h3, h4⟩ | h
  · have h3' : 32 ≤ b.toNat := h3
    have h4' : b.toNat ≤ 126 := h4
    omega
  · exact h2 (by rw [h]; rfl)

theorem printable_c (s : ByteArray) (w : World) (hs : s.size ≤ 4611686018427387904) :
    Calls Tryd.prog 5 #[.string s] w (Pure (.bool (allB prB (L s))) w) := by
  go_enter Tryd.func5, Tryd.ntmps5
  go_wp2
  go_loop [3] (fun i => ∃ k : Nat, k ≤ s.size ∧ i = .int .i64 k ∧ allB prB ((L s).drop k) = allB prB (L s)) (fun i => s.size - (intOf i).toNat)
  case atStart => exact ⟨0, Nat.zero_le _, rfl, rfl⟩
  case round =>
    obtain ⟨k, hk, rfl, hno⟩ := hrel
    have HN := Lib.hid hno
    clear hno
    go_wp2
    all_goals first
      | (have hlt : k < s.size := by assumption
         have h9' : ¬ (s[k].toNat : Int) = 9 := by
           first
             | exact bne_iff_ne.1 (by assumption)
             | (have h9 : ((s[k].toNat : Int) < 32 ∨ 126 < (s[k].toNat : Int)) ∧ ((s[k].toNat : Int) != 9) = true := by assumption
                exact bne_iff_ne.1 h9.2)
         go_ret
         refine ⟨ret_bool ?_, rfl⟩
         rw [← HN.out, L_drop s k hlt, allB, prB_no _ (by omega) h9']
         rfl)
      | (have hlt : k < s.size := by assumption
         have hp : prB s[k] = true := by
           apply prB_yes
           first
             | omega
             | (have h9 : ((s[k].toNat : Int) != 9) = false := by assumption
                have h9' := bne_eq_false_iff_eq.1 h9
                omega)
             | (have h9 : (32 : Int) ≤ (s[k].toNat : Int) ∧ (s[k].toNat : Int) ≤ 126 ∨ ((s[k].toNat : Int) != 9) = false := by assumption
                rcases h9 with h9 | h9
                · omega
                · have h9' := bne_eq_false_iff_eq.1 h9
                  omega)
         go_round
         case rel =>
           refine ⟨k + 1, by omega, by go_num, ?_⟩
           rw [← HN.out, L_drop s k hlt, allB, if_pos hp]
         case measure => simp [intOf]; omega)
      | (have hlt : ¬ k < s.size := by assumption
         go_ret
         refine ⟨ret_bool ?_, rfl⟩
         rw [← HN.out, L_drop_end s k hlt, allB])

theorem tokN_le (l : List UInt8) : tokN l ≤ l.length := by
  induction l with
  | nil => simp [tokN]
  | cons c r ih => simp only [tokN, List.length_cons]; split <;> omega

/-- The token with which a text begins, and the rest. -/
def tokPair (s : ByteArray) : Value := .tuple #[.string (s.extract 0 (tokN (L s))), .string (s.extract (tokN (L s)) s.size)]

/-- A token: one byte of a token or more. -/
def isTok (l : List UInt8) : Bool := !l.isEmpty && allB tokB l
theorem tokN_all (l : List UInt8) : ((tokN l : Int) == (l.length : Int)) = allB tokB l := by
  induction l with
  | nil => rfl
  | cons c r ih =>
    simp only [tokN, allB, List.length_cons]
    split
    · rw [← ih, Bool.eq_iff_iff]
      simp only [beq_iff_eq]
      omega
    · rw [beq_eq_false_iff_ne]
      have := tokN_le r
      omega

theorem needsEncoding_c (s : ByteArray) (w : World) :
    Calls Tryd.prog 15 #[.string s] w (Makes (.bool (!allB prB (L s))) w) := by
  go_enter Tryd.func15, Tryd.ntmps15
  go_wp2
  go_loopw [] (fun w' => ∃ pos : Nat, w' = w.iter s pos ∧ pos ≤ s.size ∧ allB prB ((L s).drop pos) = allB prB (L s)) (fun w' => s.size - w'.iterPos w.heap.size)
  case atStart => exact ⟨0, rfl, Nat.zero_le _, rfl⟩
  case round =>
    obtain ⟨pos, rfl, hpos, hno⟩ := hrel
    have HN := Lib.hid hno
    clear hno
    by_cases hlt : pos < s.size
    · by_cases ha : (s[pos]'hlt).toNat < 128
      · have hnx : ∀ ty, (Instr.next (.pointer (some ⟨w.heap.size, 0, none⟩)) true ty).run Tryd.prog (w.iter s pos) = _ := fun ty => run_next_ascii w s pos ty hlt ha
        go_wp2
        all_goals first
          | (have h9' : ¬ (s[pos].toNat : Int) = 9 := by
               first
                 | exact bne_iff_ne.1 (by assumption)
                 | (have h9 : ((s[pos].toNat : Int) < 32 ∨ 126 < (s[pos].toNat : Int)) ∧ ((s[pos].toNat : Int) != 9) = true := by assumption
                    exact bne_iff_ne.1 h9.2)
             go_ret
             refine ⟨ret_bool ?_, (Below.refl _ _).alloc (Nat.le_refl _) _⟩
             rw [← HN.out, L_drop s pos hlt, allB, prB_no _ (by omega) h9']
             rfl)
          | (have hp : prB s[pos] = true := by
               apply prB_yes
               first
                 | omega
                 | (have h9 : ((s[pos].toNat : Int) != 9) = false := by assumption
                    have h9' := bne_eq_false_iff_eq.1 h9
                    omega)
                 | (have h9 : (32 : Int) ≤ (s[pos].toNat : Int) ∧ (s[pos].toNat : Int) ≤ 126 ∨ ((s[pos].toNat : Int) != 9) = false := by assumption
                    rcases h9 with h9 | h9
                    · omega
                    · have h9' := bne_eq_false_iff_eq.1 h9
                      omega)
             go_roundw
             case rel => exact ⟨pos + 1, rfl, by omega, by rw [← HN.out, L_drop s pos hlt, allB, if_pos hp]⟩
             case measure => simp; omega)
      · have hnx : ∀ ty, (Instr.next (.pointer (some ⟨w.heap.size, 0, none⟩)) true ty).run Tryd.prog (w.iter s pos) = _ := fun ty => run_next_any w s pos ty hlt
        have hh := (decode_high s pos hlt (by omega)).1
        have hh' : (128 : Int) ≤ ((Utf8.decode s pos).1 : Int) := by omega
        have h9 : ((((Utf8.decode s pos).1 : Nat) : Int) != 9) = true := by rw [bne_iff_ne]; omega
        go_wp2
        go_ret
        refine ⟨ret_bool ?_, (Below.refl _ _).alloc (Nat.le_refl _) _⟩
        rw [← HN.out, L_drop s pos hlt, allB, prB_no _ (by omega) (by omega)]
        rfl
    · have hnx : ∀ ty, (Instr.next (.pointer (some ⟨w.heap.size, 0, none⟩)) true ty).run Tryd.prog (w.iter s pos) = _ := fun ty => run_next_end w s pos ty hlt
      go_wp2
      go_ret
      refine ⟨ret_bool ?_, (Below.refl _ _).alloc (Nat.le_refl _) _⟩
      rw [← HN.out, L_drop_end s pos hlt]
      rfl
end Go.Proofs.YtdoddigmfckhmaaDoor
