/-
  CONTRACT OF encoding/base64's decodeQuantum at a last quad with padding.
-/
import Derived.Test.YtlapehcngmiaaaaDoorQuan
namespace Go.Proofs.YtlapehcngmiaaaaDoor
open Go.RowKit

set_option maxHeartbeats 4000000 in
set_option maxRecDepth 100000 in
theorem quan2 (V : Value → Value → Value → Value → Value → Value → Value → Nat → World) (w : World) (d e b o p N kd kb : Nat) (A : List Value) (t0 t1 t2 x y : UInt8) (v0 v1 v2 : Nat) (F : QFacts V w d e b o p N A t0 t1 t2 61)
    (hN : N = p + 4) (hN1 : N ≤ 4398046511104) (u0 : undig t0 = v0) (u1 : undig t1 = v1) (u2 : undig t2 = v2) (l0 : v0 < 64) (l1 : v1 < 64) (l2 : v2 < 64)
    (hv : v0 * 262144 + v1 * 4096 + v2 * 64 = x.toNat * 65536 + y.toNat * 256) (hkb : N ≤ kb) :
    Calls Tryd.prog 70 #[.pointer (some ⟨e, 0, none⟩), .slice (some ⟨d, o, none⟩) 3 kd, .slice (some ⟨b, 0, none⟩) N kb, .int .i64 (p : Int)] w
      (fun r w' => r = .returned (.tuple #[.int .i64 (N : Int), .int .i64 2, .nilIface]) ∧ ∃ a b c f n, w' = V (.int .u8 (x.toNat : Int)) (.int .u8 (y.toNat : Int)) (.int .u8 0) a b c f n) := by
  have hx := x.toNat_lt
  have hy := y.toNat_lt
  obtain ⟨start, drew, drew1, d0, d1, d2, e0, e1, e2, f0, f1, f2, g0, g1, g2, g3, h0, h1, h2, h3, i0, map, len, look, pad, strict, s0, s1, s2, s3⟩ := F
  subst hN
  have E : bits .or .u64 (bits .or .u64 (bits .or .u64 ((v0 : Int) * 262144) ((v1 : Int) * 4096)) ((v2 : Int) * 64)) 0 = ((v0 * 262144 + v1 * 4096 + v2 * 64 : Nat) : Int) := by
    have h := val24 v0 v1 v2 0 l0 l1 l2 (by omega)
    rw [Nat.add_zero] at h
    exact h
  rw [hv] at E
  obtain ⟨M, hM⟩ : ∃ M : Int, M = ((x.toNat * 65536 + y.toNat * 256 : Nat) : Int) := ⟨_, rfl⟩
  rw [← hM] at E
  have m0 : 0 ≤ M := by omega
  have m1 : M < 16777216 := by omega
  have c0 : M / 65536 = (x.toNat : Int) := by omega
  have c1 : M / 256 % 256 = (y.toNat : Int) := by omega
  have c2 : M % 256 = 0 := by omega
  have n0 : (((v0 : Int)) == 255) = false := beq_eq_false_iff_ne.2 (by omega)
  have n1 : (((v1 : Int)) == 255) = false := beq_eq_false_iff_ne.2 (by omega)
  have n2 : (((v2 : Int)) == 255) = false := beq_eq_false_iff_ne.2 (by omega)
  have k0 : ∀ x y z a b c f n, (V x y z a b c f n).cell? ⟨e, 64 + t0.toNat, none⟩ = some (.int .u8 (v0 : Int)) := fun _ _ _ _ _ _ _ _ => by rw [look, u0]
  have k1 : ∀ x y z a b c f n, (V x y z a b c f n).cell? ⟨e, 64 + t1.toNat, none⟩ = some (.int .u8 (v1 : Int)) := fun _ _ _ _ _ _ _ _ => by rw [look, u1]
  have k2 : ∀ x y z a b c f n, (V x y z a b c f n).cell? ⟨e, 64 + t2.toNat, none⟩ = some (.int .u8 (v2 : Int)) := fun _ _ _ _ _ _ _ _ => by rw [look, u2]
  have k9 : ∀ x y z a b c f n, (V x y z a b c f n).cell? ⟨e, 125, none⟩ = some (.int .u8 255) := fun x y z a b c f n => look x y z a b c f n 61
  have s3 : ∀ x y z a b' c f n, (V x y z a b' c f n).cell? ⟨b, p + 3, none⟩ = some (.int .u8 61) := s3
  have b0 := t0.toNat_lt
  have b1 := t1.toNat_lt
  have b2 := t2.toNat_lt
  have HM := Lib.hid map
  have HI : Hid ((Tryd.prog.info? 63).map (·.size) = some A.length) := Lib.hid (by rw [len]; exact info256)
  have HP : Hid (((p : Int) + 1 + 1 + 1 + 1) = (p : Int) + 4) := Lib.hid (by omega)
  clear look hv hM map len
  go_enter Tryd.func70, Tryd.ntmps70
  go_wp2
  refine wp_load_mid 63 (.tmp 19) rfl e 64 rfl A _ (HM.out _ _ _ _ _ _ _ _) Tryd.underlying63 rfl HI.out ?_
  obtain ⟨AV, hAV⟩ : ∃ AV : Value, AV = .agg A.toArray := ⟨_, rfl⟩
  rw [← hAV]
  clear hAV
  go_wp2
  go_rounds 5
  go_rounds 1
  go_ret3
  refine ⟨?_, _, _, _, _, _, rfl⟩
  show Ending.returned (.tuple #[.int .i64 ((p : Int) + 1 + 1 + 1 + 1), .int .i64 2, .nilIface]) = _
  rw [HP.out]

set_option maxHeartbeats 4000000 in
set_option maxRecDepth 100000 in
theorem quan1 (V : Value → Value → Value → Value → Value → Value → Value → Nat → World) (w : World) (d e b o p N kd kb : Nat) (A : List Value) (t0 t1 x : UInt8) (v0 v1 : Nat) (F : QFacts V w d e b o p N A t0 t1 61 61)
    (hN : N = p + 4) (hN1 : N ≤ 4398046511104) (u0 : undig t0 = v0) (u1 : undig t1 = v1) (l0 : v0 < 64) (l1 : v1 < 64)
    (hv : v0 * 262144 + v1 * 4096 = x.toNat * 65536) (hkb : N ≤ kb) :
    Calls Tryd.prog 70 #[.pointer (some ⟨e, 0, none⟩), .slice (some ⟨d, o, none⟩) 3 kd, .slice (some ⟨b, 0, none⟩) N kb, .int .i64 (p : Int)] w
      (fun r w' => r = .returned (.tuple #[.int .i64 (N : Int), .int .i64 1, .nilIface]) ∧ ∃ a b c f n, w' = V (.int .u8 (x.toNat : Int)) (.int .u8 0) (.int .u8 0) a b c f n) := by
  have hx := x.toNat_lt
  obtain ⟨start, drew, drew1, d0, d1, d2, e0, e1, e2, f0, f1, f2, g0, g1, g2, g3, h0, h1, h2, h3, i0, map, len, look, pad, strict, s0, s1, s2, s3⟩ := F
  subst hN
  have E : bits .or .u64 (bits .or .u64 (bits .or .u64 ((v0 : Int) * 262144) ((v1 : Int) * 4096)) 0) 0 = ((v0 * 262144 + v1 * 4096 : Nat) : Int) := by
    have h := val24 v0 v1 0 0 l0 l1 (by omega) (by omega)
    rw [Nat.zero_mul, Nat.add_zero] at h
    exact h
  rw [hv] at E
  obtain ⟨M, hM⟩ : ∃ M : Int, M = ((x.toNat * 65536 : Nat) : Int) := ⟨_, rfl⟩
  rw [← hM] at E
  have m0 : 0 ≤ M := by omega
  have m1 : M < 16777216 := by omega
  have c0 : M / 65536 = (x.toNat : Int) := by omega
  have c1 : M / 256 % 256 = 0 := by omega
  have c2 : M % 256 = 0 := by omega
  have n0 : (((v0 : Int)) == 255) = false := beq_eq_false_iff_ne.2 (by omega)
  have n1 : (((v1 : Int)) == 255) = false := beq_eq_false_iff_ne.2 (by omega)
  have k0 : ∀ x y z a b c f n, (V x y z a b c f n).cell? ⟨e, 64 + t0.toNat, none⟩ = some (.int .u8 (v0 : Int)) := fun _ _ _ _ _ _ _ _ => by rw [look, u0]
  have k1 : ∀ x y z a b c f n, (V x y z a b c f n).cell? ⟨e, 64 + t1.toNat, none⟩ = some (.int .u8 (v1 : Int)) := fun _ _ _ _ _ _ _ _ => by rw [look, u1]
  have k9 : ∀ x y z a b c f n, (V x y z a b c f n).cell? ⟨e, 125, none⟩ = some (.int .u8 255) := fun x y z a b c f n => look x y z a b c f n 61
  have s2 : ∀ x y z a b' c f n, (V x y z a b' c f n).cell? ⟨b, p + 2, none⟩ = some (.int .u8 61) := s2
  have s3 : ∀ x y z a b' c f n, (V x y z a b' c f n).cell? ⟨b, p + 3, none⟩ = some (.int .u8 61) := s3
  have b0 := t0.toNat_lt
  have b1 := t1.toNat_lt
  have HM := Lib.hid map
  have HI : Hid ((Tryd.prog.info? 63).map (·.size) = some A.length) := Lib.hid (by rw [len]; exact info256)
  have HP : Hid (((p : Int) + 1 + 1 + 1 + 1) = (p : Int) + 4) := Lib.hid (by omega)
  clear look hv hM map len
  go_enter Tryd.func70, Tryd.ntmps70
  go_wp2
  refine wp_load_mid 63 (.tmp 19) rfl e 64 rfl A _ (HM.out _ _ _ _ _ _ _ _) Tryd.underlying63 rfl HI.out ?_
  obtain ⟨AV, hAV⟩ : ∃ AV : Value, AV = .agg A.toArray := ⟨_, rfl⟩
  rw [← hAV]
  clear hAV
  go_wp2
  go_rounds 5
  go_rounds 1
  go_quiet (fail)
  go_wp2
  go_rounds 1
  go_ret3
  refine ⟨?_, _, _, _, _, _, rfl⟩
  show Ending.returned (.tuple #[.int .i64 ((p : Int) + 1 + 1 + 1 + 1), .int .i64 1, .nilIface]) = _
  rw [HP.out]

end Go.Proofs.YtlapehcngmiaaaaDoor
