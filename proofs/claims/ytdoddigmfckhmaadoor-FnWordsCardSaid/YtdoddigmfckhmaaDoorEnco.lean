/-
  CONTRACT OF encoding/base64's Encode into the encoder's own output, for a text of at most 768 bytes.
-/
import Derived.Test.YtdoddigmfckhmaaDoorOut
import Derived.Deep.MidRow
import Derived.BigQuiet
import Derived.BigRegion
import Derived.Handy
namespace Go.Proofs.YtdoddigmfckhmaaDoor
open Go.RowKit

theorem info64 : (Tryd.prog.info? 75).map (·.size) = some 64 := by kernel_rfl
def digL : List Value := (List.range 64).map fun n => Value.int .u8 ((dig n).toNat : Int)
theorem dig_info : (Tryd.prog.info? 75).map (·.size) = some digL.length := by unfold digL; rw [List.length_map, List.length_range]; exact info64
theorem EncAt.digs {e : Nat} {w : World} (h : EncAt e w) : w.rangeAt e 0 digL := by
  intro j v hj
  have hl : j < 64 := by
    rcases Nat.lt_or_ge j 64 with h1 | h1
    · exact h1
    · rw [List.getElem?_eq_none (by simpa [digL] using h1)] at hj; cases hj
  have : v = .int .u8 ((dig j).toNat : Int) := by
    simp [digL, hl] at hj
    exact hj.symm
  rw [this, Nat.zero_add]
  exact h.digit j hl

/-- The source's bytes lie in the block g from cell o on. -/
def Lie (g o : Nat) (x : List UInt8) (w : World) : Prop := ∀ (j : Nat) (c : UInt8), x[j]? = some c → w.cell? ⟨g, o + j, none⟩ = some (.int .u8 (c.toNat : Int))
theorem Lie.at {g o : Nat} {x : List UInt8} {w : World} (h : Lie g o x w) (k : Nat) (c : UInt8) (r : List UInt8) (hx : x.drop k = c :: r) : w.cell? ⟨g, o + k, none⟩ = some (.int .u8 (c.toNat : Int)) ∧ x.drop (k + 1) = r := by
  have h1 : x[k]? = some c := by
    have := congrArg List.head? hx
    rwa [List.head?_cons, List.head?_drop] at this
  exact ⟨h k c h1, by rw [← List.drop_drop, hx]; rfl⟩

/-- One store into the output, and what stands behind it. -/
theorem out_step {eb e : Nat} {pre : List Value} {done : List UInt8} {w : World} (h : OutAt eb pre done w) (hE : EncAt e w) (he : e ≠ eb) (o : Nat) (ho : done.length + 7 = o) (hm : done.length < 1024) (c : UInt8) :
    OutAt eb pre (done ++ [c]) (w.setCell ⟨eb, o, none⟩ (.int .u8 (c.toNat : Int))) ∧ EncAt e (w.setCell ⟨eb, o, none⟩ (.int .u8 (c.toNat : Int))) :=
  ⟨h.put o ho hm c, hE.keep ((Only.refl eb w).setCell _ _) he⟩

/-- Four stores into the output, one behind the other: what the walk asks of the worlds between them. -/
theorem quad_steps {eb e : Nat} {pre : List Value} {done : List UInt8} {w : World} (h : OutAt eb pre done w) (hE : EncAt e w) (he : e ≠ eb) (o : Nat) (ho : done.length + 7 = o) (hm : done.length + 4 ≤ 1024) (c0 c1 c2 c3 : UInt8) :
    (∃ v, w.cell? ⟨eb, o + 3, none⟩ = some v) ∧
    (∃ v, w.cell? ⟨eb, o, none⟩ = some v) ∧ w.frozen? ⟨eb, o, none⟩ = false ∧ EncAt e w ∧
    (∃ v, (w.setCell ⟨eb, o, none⟩ (.int .u8 (c0.toNat : Int))).cell? ⟨eb, o + 1, none⟩ = some v) ∧ (w.setCell ⟨eb, o, none⟩ (.int .u8 (c0.toNat : Int))).frozen? ⟨eb, o + 1, none⟩ = false ∧ EncAt e (w.setCell ⟨eb, o, none⟩ (.int .u8 (c0.toNat : Int))) ∧
    (∃ v, ((w.setCell ⟨eb, o, none⟩ (.int .u8 (c0.toNat : Int))).setCell ⟨eb, o + 1, none⟩ (.int .u8 (c1.toNat : Int))).cell? ⟨eb, o + 2, none⟩ = some v) ∧ ((w.setCell ⟨eb, o, none⟩ (.int .u8 (c0.toNat : Int))).setCell ⟨eb, o + 1, none⟩ (.int .u8 (c1.toNat : Int))).frozen? ⟨eb, o + 2, none⟩ = false ∧ EncAt e ((w.setCell ⟨eb, o, none⟩ (.int .u8 (c0.toNat : Int))).setCell ⟨eb, o + 1, none⟩ (.int .u8 (c1.toNat : Int))) ∧
    (∃ v, (((w.setCell ⟨eb, o, none⟩ (.int .u8 (c0.toNat : Int))).setCell ⟨eb, o + 1, none⟩ (.int .u8 (c1.toNat : Int))).setCell ⟨eb, o + 2, none⟩ (.int .u8 (c2.toNat : Int))).cell? ⟨eb, o + 3, none⟩ = some v) ∧ (((w.setCell ⟨eb, o, none⟩ (.int .u8 (c0.toNat : Int))).setCell ⟨eb, o + 1, none⟩ (.int .u8 (c1.toNat : Int))).setCell ⟨eb, o + 2, none⟩ (.int .u8 (c2.toNat : Int))).frozen? ⟨eb, o + 3, none⟩ = false ∧ EncAt e (((w.setCell ⟨eb, o, none⟩ (.int .u8 (c0.toNat : Int))).setCell ⟨eb, o + 1, none⟩ (.int .u8 (c1.toNat : Int))).setCell ⟨eb, o + 2, none⟩ (.int .u8 (c2.toNat : Int))) ∧
    OutAt eb pre (done ++ [c0, c1, c2, c3]) ((((w.setCell ⟨eb, o, none⟩ (.int .u8 (c0.toNat : Int))).setCell ⟨eb, o + 1, none⟩ (.int .u8 (c1.toNat : Int))).setCell ⟨eb, o + 2, none⟩ (.int .u8 (c2.toNat : Int))).setCell ⟨eb, o + 3, none⟩ (.int .u8 (c3.toNat : Int))) ∧
    Only eb w ((((w.setCell ⟨eb, o, none⟩ (.int .u8 (c0.toNat : Int))).setCell ⟨eb, o + 1, none⟩ (.int .u8 (c1.toNat : Int))).setCell ⟨eb, o + 2, none⟩ (.int .u8 (c2.toNat : Int))).setCell ⟨eb, o + 3, none⟩ (.int .u8 (c3.toNat : Int))) := by
  obtain ⟨p1, k1⟩ := out_step h hE he o ho (by omega) c0
  obtain ⟨p2, k2⟩ := out_step p1 k1 he (o + 1) (by simp; omega) (by simp; omega) c1
  obtain ⟨p3, k3⟩ := out_step p2 k2 he (o + 2) (by simp; omega) (by simp; omega) c2
  obtain ⟨p4, k4⟩ := out_step p3 k3 he (o + 3) (by simp; omega) (by simp; omega) c3
  exact ⟨h.has _ (by omega), h.has _ (by omega), h.frozen _, hE, p1.has _ (by omega), p1.frozen _, k1, p2.has _ (by omega), p2.frozen _, k2, p3.has _ (by omega), p3.frozen _, k3,
    by simpa using p4, ((((Only.refl eb w).setCell _ _).setCell _ _).setCell _ _).setCell _ _⟩

set_option maxHeartbeats 4000000 in
set_option maxRecDepth 100000 in
theorem encode_c (w : World) (e eb g a n cap : Nat) (pre : List Value) (x : List UInt8) (hO : OutAt eb pre [] w) (hE : EncAt e w) (he : e ≠ eb) (hS : ∀ w' done, OutAt eb pre done w' → Only eb w w' → Lie g a x w')
    (hn1 : n ≤ x.length) (hn2 : x.length ≤ n) (hcap : n ≤ cap) (hb : n ≤ 600) :
    Calls Tryd.prog 64 #[.pointer (some ⟨e, 0, none⟩), .slice (some ⟨eb, 7, none⟩) 1024 1024, .slice (some ⟨g, a, none⟩) n cap] w
      (fun r w' => r = .returned (.tuple #[]) ∧ OutAt eb pre (b64 x) w' ∧ Only eb w w') := by
  have HO := Lib.hid hO
  have HE := Lib.hid hE
  have HS := Lib.hid hS
  have HR := Lib.hid hE.digs
  clear hO hE hS
  go_enter Tryd.func64, Tryd.ntmps64
  by_cases h0 : n = 0
  · obtain rfl : x = [] := List.length_eq_zero_iff.1 (by omega)
    subst h0
    clear hn1 hn2
    go_wp2
    go_returns
    exact ⟨rfl, HO.out, Only.refl _ _⟩
  · have hz : ((n : Int) == 0) = false := beq_eq_false_iff_ne.2 (by omega)
    clear h0
    go_wp2_with (with_reducible refine wpList_load_mid rfl 75 (.tmp 14) rfl e 0 rfl digL _ HR.out Tryd.underlying75 rfl dig_info ?_)
    obtain ⟨AV, hAV⟩ : ∃ AV : Value, AV = .agg digL.toArray := ⟨_, rfl⟩
    rw [← hAV]
    clear hAV
    go_simp
    go_loopw [1, 2] (fun d s wr => ∃ q o m ga gn gc : Nat, d = .slice (some ⟨eb, o, none⟩) m m ∧ s = .slice (some ⟨g, ga, none⟩) gn gc ∧ o ≤ 7 + 4 * q ∧ 7 + 4 * q ≤ o ∧ m + o ≤ 1031 ∧ 1031 ≤ m + o ∧ gn + 3 * q ≤ n ∧ n ≤ gn + 3 * q ∧ gn ≤ gc ∧ gc ≤ cap ∧ (gn = 0 ∨ (ga ≤ a + 3 * q ∧ a + 3 * q ≤ ga)) ∧ OutAt eb pre (b64 (x.take (3 * q))) wr ∧ Only eb w wr) (fun _ s _ => (match s with | .slice _ k _ => k | _ => 0))
    case atStart => exact ⟨0, 7, 1024, a, n, cap, rfl, rfl, by omega, by omega, by omega, by omega, by omega, by omega, by omega, by omega, .inr ⟨by omega, by omega⟩, HO.out, Only.refl _ _⟩
    case round =>
      obtain ⟨q, o, m, ga, gn, gc, rfl, rfl, o1, o2, m1, m2, n1, n2, g1, g2, hga, hout, hon⟩ := hrel
      have HB := Lib.hid (And.intro hout hon)
      clear hout hon
      by_cases h3 : 3 ≤ gn
      · have hga' : ga ≤ a + 3 * q ∧ a + 3 * q ≤ ga := by omega
        clear hga
        obtain ⟨c0, c1, c2, r, hx⟩ : ∃ c0 c1 c2 r, x.drop (3 * q) = c0 :: c1 :: c2 :: r := by
          have hl : 3 ≤ (x.drop (3 * q)).length := by rw [List.length_drop]; omega
          match x.drop (3 * q), hl with
          | c0 :: c1 :: c2 :: r, _ => exact ⟨c0, c1, c2, r, rfl⟩
        have hs := HS.out wr _ HB.out.1 HB.out.2
        obtain ⟨s0, x1⟩ := hs.at _ _ _ hx
        obtain ⟨s1, x2⟩ := hs.at _ _ _ x1
        obtain ⟨s2, x3⟩ := hs.at _ _ _ x2
        rw [show a + 3 * q = ga by omega] at s0
        rw [show a + (3 * q + 1) = ga + 1 by omega] at s1
        rw [show a + (3 * q + 1 + 1) = ga + 2 by omega] at s2
        have HX := Lib.hid hx
        clear hx x1 x2 x3 hs
        have b0 := c0.toNat_lt
        have b1 := c1.toNat_lt
        have b2 := c2.toNat_lt
        have d3 : decide ((3 : Int) ≤ (gn : Int)) = true := decide_eq_true (by omega)
        have E := val3 _ _ _ b0 b1 b2
        obtain ⟨N, hN⟩ : ∃ N : Nat, N = c0.toNat * 65536 + c1.toNat * 256 + c2.toNat := ⟨_, rfl⟩
        have hNl : N < 16777216 := by omega
        rw [← hN] at E
        obtain ⟨i0, hi0⟩ : ∃ i, i = N / 262144 % 64 := ⟨_, rfl⟩
        obtain ⟨i1, hi1⟩ : ∃ i, i = N / 4096 % 64 := ⟨_, rfl⟩
        obtain ⟨i2, hi2⟩ : ∃ i, i = N / 64 % 64 := ⟨_, rfl⟩
        obtain ⟨i3, hi3⟩ : ∃ i, i = N % 64 := ⟨_, rfl⟩
        have l0 : i0 < 64 := by omega
        have l1 : i1 < 64 := by omega
        have l2 : i2 < 64 := by omega
        have l3 : i3 < 64 := by omega
        have A0 : bits .and .u64 ((N : Int) / 262144) 63 = (i0 : Int) := by rw [hi0]; exact and63 (N / 262144) (by omega)
        have A1 : bits .and .u64 ((N : Int) / 4096) 63 = (i1 : Int) := by rw [hi1]; exact and63 (N / 4096) (by omega)
        have A2 : bits .and .u64 ((N : Int) / 64) 63 = (i2 : Int) := by rw [hi2]; exact and63 (N / 64) (by omega)
        have A3 : bits .and .u64 (N : Int) 63 = (i3 : Int) := by rw [hi3]; exact and63 N (by omega)
        have hlen : (b64 (x.take (3 * q))).length = 4 * q := by rw [b64_len, List.length_take]; omega
        have Hlen := Lib.hid hlen
        have HQ : Hid (b64 (x.take (3 * (q + 1))) = b64 (x.take (3 * q)) ++ [dig i0, dig i1, dig i2, dig i3]) := Lib.hid (by rw [b64_step x q c0 c1 c2 r HX.out, ← hN, q4, ← hi0, ← hi1, ← hi2, ← hi3])
        clear hN hi0 hi1 hi2 hi3 hlen
        have a1 : (3 : Int) ≤ (gn : Int) := by omega
        have a2 : (3 : Int) ≤ (gc : Int) := by omega
        have a3 : (4 : Int) ≤ (m : Int) := by omega
        have a4 : ¬ m = 4 := by omega
        have HM : Hid (q + 1 ≤ 200) := Lib.hid (by omega)
        by_cases hc3 : gc = 3
        · subst hc3
          go_wp2
          go_quiet (fail)
          have hd := HE.out.keep (HB.out.2.drewN nq) he
          have hbd := And.intro (HB.out.1.drewN nq) (HB.out.2.drewN nq)
          obtain ⟨W, hW⟩ : ∃ W, W = wr.drewN nq := ⟨_, rfl⟩
          rw [← hW] at hd hbd ⊢
          have hlen := Hlen.out
          obtain ⟨⟨v0, y0⟩, ⟨v1, y1⟩, f1, E0, ⟨v2, y2⟩, f2, E1, ⟨v3, y3⟩, f3, E2, ⟨v4, y4⟩, f4, E3, P, O⟩ := quad_steps hbd.1 hd he o (by omega) (by omega) (dig i0) (dig i1) (dig i2) (dig i3)
          have k0 := E0.digit i0 l0
          have k1 := E1.digit i1 l1
          have k2 := E2.digit i2 l2
          have k3 := E3.digit i3 l3
          have HP := Lib.hid (And.intro P (hbd.2.trans O))
          clear hW hd hbd hlen P O E0 E1 E2 E3
          go_wp2
          refine ⟨⟨q + 1, o + 4, m - 4, ga, 0, 0, rfl, rfl, by omega, by omega, by omega, by omega, by omega, by omega, by omega, by omega, .inl rfl, by rw [HQ.out]; exact HP.out.1, HP.out.2⟩, ?_⟩
          show (0 : Nat) < gn
          omega
        · go_wp2
          go_quiet (fail)
          have hd := HE.out.keep (HB.out.2.drewN nq) he
          have hbd := And.intro (HB.out.1.drewN nq) (HB.out.2.drewN nq)
          obtain ⟨W, hW⟩ : ∃ W, W = wr.drewN nq := ⟨_, rfl⟩
          rw [← hW] at hd hbd ⊢
          have hlen := Hlen.out
          obtain ⟨⟨v0, y0⟩, ⟨v1, y1⟩, f1, E0, ⟨v2, y2⟩, f2, E1, ⟨v3, y3⟩, f3, E2, ⟨v4, y4⟩, f4, E3, P, O⟩ := quad_steps hbd.1 hd he o (by omega) (by omega) (dig i0) (dig i1) (dig i2) (dig i3)
          have k0 := E0.digit i0 l0
          have k1 := E1.digit i1 l1
          have k2 := E2.digit i2 l2
          have k3 := E3.digit i3 l3
          have HP := Lib.hid (And.intro P (hbd.2.trans O))
          clear hW hd hbd hlen P O E0 E1 E2 E3
          go_wp2
          refine ⟨⟨q + 1, o + 4, m - 4, ga + 3, gn - 3, gc - 3, rfl, rfl, by omega, by omega, by omega, by omega, by omega, by omega, by omega, by omega, .inr ⟨by omega, by omega⟩, by rw [HQ.out]; exact HP.out.1, HP.out.2⟩, ?_⟩
          show gn - 3 < gn
          omega
      · by_cases g0 : gn = 0
        · have hx : x.take (3 * q) = x := List.take_of_length_le (by omega)
          have HX : Hid (OutAt eb pre (b64 x) wr ∧ Only eb w wr) := Lib.hid (by rw [← hx]; exact ⟨HB.out.1, HB.out.2⟩)
          subst g0
          clear hx hga
          go_wp2
          go_returns
          exact ⟨rfl, HX.out⟩
        · have hga' : ga ≤ a + 3 * q ∧ a + 3 * q ≤ ga := by omega
          clear hga
          have HX := Lib.hid (b64_rest x q (by omega))
          by_cases g1' : gn = 1
          · obtain ⟨c0, hx⟩ : ∃ c0, x.drop (3 * q) = [c0] := by
              have hl : (x.drop (3 * q)).length = 1 := by rw [List.length_drop]; omega
              match x.drop (3 * q), hl with
              | [c0], _ => exact ⟨c0, rfl⟩
            obtain ⟨s0, _⟩ := (HS.out wr _ HB.out.1 HB.out.2).at _ _ _ hx
            rw [show a + 3 * q = ga by omega] at s0
            have b0 := c0.toNat_lt
            obtain ⟨N, hN⟩ : ∃ N : Nat, N = c0.toNat * 65536 := ⟨_, rfl⟩
            have E : (c0.toNat : Int) * 65536 = (N : Int) := by omega
            have hNl : N < 16777216 := by omega
            obtain ⟨i0, hi0⟩ : ∃ i, i = N / 262144 % 64 := ⟨_, rfl⟩
            obtain ⟨i1, hi1⟩ : ∃ i, i = N / 4096 % 64 := ⟨_, rfl⟩
            have l0 : i0 < 64 := by omega
            have l1 : i1 < 64 := by omega
            have A0 : bits .and .u64 ((N : Int) / 262144) 63 = (i0 : Int) := by rw [hi0]; exact and63 (N / 262144) (by omega)
            have A1 : bits .and .u64 ((N : Int) / 4096) 63 = (i1 : Int) := by rw [hi1]; exact and63 (N / 4096) (by omega)
            have hlen : (b64 (x.take (3 * q))).length = 4 * q := by rw [b64_len, List.length_take]; omega
            have HQ : Hid (b64 x = b64 (x.take (3 * q)) ++ [dig i0, dig i1, 61, 61]) := Lib.hid (by rw [HX.out, hx, b64, ← hN, ← hi0, ← hi1])
            obtain ⟨⟨v0, y0⟩, ⟨v1, y1⟩, f1, E0, ⟨v2, y2⟩, f2, E1, ⟨v3, y3⟩, f3, E2, ⟨v4, y4⟩, f4, E3, P, O⟩ := quad_steps HB.out.1 (HE.out.keep HB.out.2 he) he o (by omega) (by omega) (dig i0) (dig i1) 61 61
            have k0 := E0.digit i0 l0
            have k1 := E1.digit i1 l1
            have k2 := E2.pad
            have k3 := E3.pad
            have e61 : (((61 : UInt8).toNat : Nat) : Int) = 61 := rfl
            rw [e61] at y4 f4 k3
            have HP := Lib.hid (And.intro P (HB.out.2.trans O))
            have a3 : (4 : Int) ≤ (m : Int) := by omega
            have a5 : (1 : Int) ≤ (gc : Int) := by omega
            clear hN hi0 hi1 hlen P O E0 E1 E2 E3 hx
            subst g1'
            go_wp2
            go_end0
            exact ⟨rfl, by rw [HQ.out]; exact HP.out.1, HP.out.2⟩
          · obtain ⟨c0, c1, hx⟩ : ∃ c0 c1, x.drop (3 * q) = [c0, c1] := by
              have hl : (x.drop (3 * q)).length = 2 := by rw [List.length_drop]; omega
              match x.drop (3 * q), hl with
              | [c0, c1], _ => exact ⟨c0, c1, rfl⟩
            obtain ⟨s0, x1⟩ := (HS.out wr _ HB.out.1 HB.out.2).at _ _ _ hx
            obtain ⟨s1, _⟩ := (HS.out wr _ HB.out.1 HB.out.2).at _ _ _ x1
            rw [show a + 3 * q = ga by omega] at s0
            rw [show a + (3 * q + 1) = ga + 1 by omega] at s1
            have b0 := c0.toNat_lt
            have b1 := c1.toNat_lt
            have E := val2 _ _ b0 b1
            obtain ⟨N, hN⟩ : ∃ N : Nat, N = c0.toNat * 65536 + c1.toNat * 256 := ⟨_, rfl⟩
            rw [← hN] at E
            have hNl : N < 16777216 := by omega
            obtain ⟨i0, hi0⟩ : ∃ i, i = N / 262144 % 64 := ⟨_, rfl⟩
            obtain ⟨i1, hi1⟩ : ∃ i, i = N / 4096 % 64 := ⟨_, rfl⟩
            obtain ⟨i2, hi2⟩ : ∃ i, i = N / 64 % 64 := ⟨_, rfl⟩
            have l0 : i0 < 64 := by omega
            have l1 : i1 < 64 := by omega
            have l2 : i2 < 64 := by omega
            have A0 : bits .and .u64 ((N : Int) / 262144) 63 = (i0 : Int) := by rw [hi0]; exact and63 (N / 262144) (by omega)
            have A1 : bits .and .u64 ((N : Int) / 4096) 63 = (i1 : Int) := by rw [hi1]; exact and63 (N / 4096) (by omega)
            have A2 : bits .and .u64 ((N : Int) / 64) 63 = (i2 : Int) := by rw [hi2]; exact and63 (N / 64) (by omega)
            have hlen : (b64 (x.take (3 * q))).length = 4 * q := by rw [b64_len, List.length_take]; omega
            have Hlen := Lib.hid hlen
            have HQ : Hid (b64 x = b64 (x.take (3 * q)) ++ [dig i0, dig i1, dig i2, 61]) := Lib.hid (by rw [HX.out, hx, b64, ← hN, ← hi0, ← hi1, ← hi2])
            have a3 : (4 : Int) ≤ (m : Int) := by omega
            have a5 : (2 : Int) ≤ (gc : Int) := by omega
            have HM : Hid (q + 1 ≤ 201) := Lib.hid (by omega)
            obtain rfl : gn = 2 := by omega
            clear hN hi0 hi1 hi2 hlen hx x1 g1'
            go_wp2
            go_quiet (fail)
            have hd := HE.out.keep (HB.out.2.drewN nq) he
            have hbd := And.intro (HB.out.1.drewN nq) (HB.out.2.drewN nq)
            obtain ⟨W, hW⟩ : ∃ W, W = wr.drewN nq := ⟨_, rfl⟩
            rw [← hW] at hd hbd ⊢
            have hlen := Hlen.out
            obtain ⟨⟨v0, y0⟩, ⟨v1, y1⟩, f1, E0, ⟨v2, y2⟩, f2, E1, ⟨v3, y3⟩, f3, E2, ⟨v4, y4⟩, f4, E3, P, O⟩ := quad_steps hbd.1 hd he o (by omega) (by omega) (dig i0) (dig i1) (dig i2) 61
            have k0 := E0.digit i0 l0
            have k1 := E1.digit i1 l1
            have k2 := E2.digit i2 l2
            have k3 := E3.pad
            have HP := Lib.hid (And.intro P (hbd.2.trans O))
            clear hW hd hbd hlen P O E0 E1 E2 E3
            go_wp2
            go_end0
            exact ⟨rfl, by rw [HQ.out]; exact HP.out.1, HP.out.2⟩
end Go.Proofs.YtdoddigmfckhmaaDoor
