/-
  THE WALKS OF FnExactValueQuoted AND FnExactValueToken: each returns true for every two texts, and writes nothing that was there.
-/
import Derived.Test.YteohjnebbndcoaaDoorVal
import Derived.Test.YteohjnebbndcoaaDoorQuote
namespace Go.Proofs.YteohjnebbndcoaaDoor
open Go.RowKit

theorem unq_esc_all (l acc r : List UInt8) (h : allB prB l = true) : unq acc false (esc l ++ 34 :: r) = some (acc ++ l, r) := by
  induction l generalizing acc with
  | nil => simp [esc, unq_quote]
  | cons c l ih =>
    rw [allB] at h
    split at h
    · rename_i hp
      rw [esc]
      split
      · rename_i hc
        rw [List.cons_append, List.cons_append, unq_esc _ _ _ (by rcases hc with hc | hc <;> rw [hc] <;> decide), ih _ h]
        simp
      · rename_i hc
        rw [List.cons_append, unq_plain _ _ _ (fun e => hc (.inr e)) (fun e => hc (.inl e.1)) (by rintro rfl; exact absurd hp (by decide)) (by rintro rfl; exact absurd hp (by decide)), ih _ h]
        simp
    · cases h
theorem quo_unq (l r : List UInt8) (h : allB prB l = true) : unq [] false ((quo l ++ r).drop 1) = some (l, r) := by
  have := unq_esc_all l [] r h
  simpa [quo] using this

theorem consumeValue_token (s : ByteArray) (w : World) (hs : s.size ≤ 1099511627776) (h0 : 0 < s.size) (hq : ¬ s[0] = 34) :
    Calls Tryd.prog 40 #[.string s] w (Quiet (tokPair s) w) := by
  have hemp := not_empty s h0
  have hq' : ((s[0].toNat : Int) != 34) = true := bne_no _ 34 _ rfl hq
  clear hq
  go_enter Tryd.func40, Tryd.ntmps40
  go_wp2_with fail
  refine (consumeToken_c s _ (by omega)).mono ?_
  rintro e w1 ⟨rfl, n, rfl⟩
  unfold tokPair
  go_wp2_with fail
  go_ret2
  exact ⟨rfl, n, rfl⟩

theorem tokN_append (l r : List UInt8) (h : allB tokB l = true) (hr : tokN r = 0) : tokN (l ++ r) = l.length := by
  induction l with
  | nil => simpa using hr
  | cons c l ih =>
    rw [allB] at h
    split at h
    · rename_i hc
      rw [List.cons_append, tokN, if_pos hc, ih h, List.length_cons]
    · cases h

end Go.Proofs.YteohjnebbndcoaaDoor
