/-
  CONTRACT OF encoding/base64's Decode at the text of bytes.
-/
import Derived.Test.YtlapehcngmiaaaaDoorQFact
import Derived.Test.YtlapehcngmiaaaaDoorPut
namespace Go.Proofs.YtlapehcngmiaaaaDoor
open Go.RowKit

theorem two_quads (t : ByteArray) (x : List UInt8) (p o : Nat) (h : (L t).drop p = b64 (x.drop o)) (hl : 6 ≤ (x.drop o).length) :
    ∃ (a1 a2 a3 a4 a5 a6 : UInt8) (hp : p + 7 < t.size), x.take (o + 6) = x.take o ++ [a1, a2, a3, a4, a5, a6] ∧ (L t).drop (p + 8) = b64 (x.drop (o + 6)) ∧
      [t[p], t[p + 1], t[p + 2], t[p + 3], t[p + 4], t[p + 5], t[p + 6], t[p + 7]] = q4 (a1.toNat * 65536 + a2.toNat * 256 + a3.toNat) ++ q4 (a4.toNat * 65536 + a5.toNat * 256 + a6.toNat) := by
  obtain ⟨a1, a2, a3, a4, a5, a6, r, hr⟩ : ∃ a1 a2 a3 a4 a5 a6 r, x.drop o = a1 :: a2 :: a3 :: a4 :: a5 :: a6 :: r := by
    match hx : x.drop o, hl with
    | a1 :: a2 :: a3 :: a4 :: a5 :: a6 :: r, _ => exact ⟨a1, a2, a3, a4, a5, a6, r, rfl⟩
  rw [hr, b64_three, b64_three] at h
  have hlen := congrArg List.length h
  simp [q4, L_length] at hlen
  have hp : p + 7 < t.size := by omega
  rw [L_drop t p (by omega), L_drop t (p + 1) (by omega), L_drop t (p + 2) (by omega), L_drop t (p + 3) (by omega), L_drop t (p + 4) (by omega), L_drop t (p + 5) (by omega), L_drop t (p + 6) (by omega), L_drop t (p + 7) (by omega)] at h
  have hd : x.drop (o + 6) = r := by
    rw [← List.drop_drop, hr]; rfl
  refine ⟨a1, a2, a3, a4, a5, a6, hp, ?_, ?_, ?_⟩
  · rw [List.take_add, hr]; rfl
  · rw [hd]
    simp only [q4, List.cons_append, List.nil_append, List.cons.injEq] at h
    exact h.2.2.2.2.2.2.2.2
  · simp only [q4, List.cons_append, List.nil_append, List.cons.injEq] at h ⊢
    simp [h]
theorem one_quad (t : ByteArray) (x : List UInt8) (p o : Nat) (h : (L t).drop p = b64 (x.drop o)) (hl : 3 ≤ (x.drop o).length) :
    ∃ (a1 a2 a3 : UInt8) (hp : p + 3 < t.size), x.take (o + 3) = x.take o ++ [a1, a2, a3] ∧ (L t).drop (p + 4) = b64 (x.drop (o + 3)) ∧
      [t[p], t[p + 1], t[p + 2], t[p + 3]] = q4 (a1.toNat * 65536 + a2.toNat * 256 + a3.toNat) := by
  obtain ⟨a1, a2, a3, r, hr⟩ : ∃ a1 a2 a3 r, x.drop o = a1 :: a2 :: a3 :: r := by
    match hx : x.drop o, hl with
    | a1 :: a2 :: a3 :: r, _ => exact ⟨a1, a2, a3, r, rfl⟩
  rw [hr, b64_three] at h
  have hlen := congrArg List.length h
  simp [q4, L_length] at hlen
  have hp : p + 3 < t.size := by omega
  rw [L_drop t p (by omega), L_drop t (p + 1) (by omega), L_drop t (p + 2) (by omega), L_drop t (p + 3) (by omega)] at h
  have hd : x.drop (o + 3) = r := by
    rw [← List.drop_drop, hr]; rfl
  refine ⟨a1, a2, a3, hp, ?_, ?_, ?_⟩
  · rw [List.take_add, hr]; rfl
  · rw [hd]
    simp only [q4, List.cons_append, List.nil_append, List.cons.injEq] at h
    exact h.2.2.2.2
  · simp only [q4, List.cons_append, List.nil_append, List.cons.injEq] at h ⊢
    simp [h]
theorem q4_vals (n : Nat) (a b c d : UInt8) (h : [a, b, c, d] = q4 n) (hn : n < 16777216) : ∃ v0 v1 v2 v3 : Nat, undig a = v0 ∧ undig b = v1 ∧ undig c = v2 ∧ undig d = v3 ∧ v0 < 64 ∧ v1 < 64 ∧ v2 < 64 ∧ v3 < 64 ∧ v0 * 262144 + v1 * 4096 + v2 * 64 + v3 = n := by
  have dg : ∀ n : Nat, undig (dig (n % 64)) = n % 64 := fun n => undig_dig ⟨n % 64, by omega⟩
  simp only [q4, List.cons.injEq, and_true] at h
  obtain ⟨rfl, rfl, rfl, rfl⟩ := h
  exact ⟨_, _, _, _, dg _, dg _, dg _, dg _, by omega, by omega, by omega, by omega, by omega⟩
end Go.Proofs.YtlapehcngmiaaaaDoor
