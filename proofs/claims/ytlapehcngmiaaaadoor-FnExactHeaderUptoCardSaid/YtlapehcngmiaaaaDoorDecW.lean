/-
  THE WALK OF encoding/base64's Decode at the text of bytes.
-/
import Derived.Test.YtlapehcngmiaaaaDoorDecB
import Derived.BigQuiet
import Derived.Handy
namespace Go.Proofs.YtlapehcngmiaaaaDoor
open Go.RowKit

def mapL : List Value := (List.range 256).map fun c => Value.int .u8 (undig (UInt8.ofNat c) : Int)
theorem map_info : (Tryd.prog.info? 63).map (·.size) = some mapL.length := by unfold mapL; rw [List.length_map, List.length_range]; exact info256
theorem EncAt.range {e : Nat} {w : World} (h : EncAt e w) : w.rangeAt e 64 mapL := by
  intro j v hj
  have hl : j < 256 := by
    rcases Nat.lt_or_ge j 256 with h1 | h1
    · exact h1
    · rw [List.getElem?_eq_none (by simpa [mapL] using h1)] at hj; cases hj
  have : v = .int .u8 (undig (UInt8.ofNat j) : Int) := by
    simp [mapL, hl] at hj
    exact hj.symm
  rw [this]
  exact h.map j hl

/-- What Decode hands back. -/
def DecPost (d m : Nat) (x : List UInt8) (w : World) (r : Ending) (w' : World) : Prop :=
  r = .returned (.tuple #[.int .i64 (x.length : Int), .nilIface]) ∧ Fills d m x w' ∧ Only d w w'

theorem quan_tail (w : World) (d e b m kb o p q : Nat) (x : List UInt8) (t : ByteArray) (hd : Fills d m (x.take o) w) (hE : EncAt e w) (he : e ≠ d) (hS : SrcAt b t w) (hb : b ≠ d)
    (hm : m = 3 * (q + 1)) (ho : o = 3 * q) (hp : p = 4 * q) (ht : t.size = 4 * (q + 1)) (htm : t.size ≤ 4398046511104) (hkb : t.size ≤ kb) (h1 : o + 1 ≤ x.length) (h3 : x.length ≤ o + 3) (hx : (L t).drop p = b64 (x.drop o)) :
    Calls Tryd.prog 70 #[.pointer (some ⟨e, 0, none⟩), .slice (some ⟨d, o, none⟩) (m - o) (m - o), .slice (some ⟨b, 0, none⟩) t.size kb, .int .i64 (p : Int)] w
      (fun r w' => r = .returned (.tuple #[.int .i64 (t.size : Int), .int .i64 ((x.length : Int) - (o : Int)), .nilIface]) ∧ Fills d m x w' ∧ Only d w w') := by
  have hl : (x.take o).length = o := by rw [List.length_take]; omega
  have hmo : m - o = 3 := by omega
  have hmm : m = (x.take o).length + 3 := by omega
  have h := quan_c w d e b p 3 kb (x.take o) (x.drop o) t (hmm ▸ hd) hE he hS hb (by omega) htm hkb hx (by rw [List.length_drop]; omega) (by rw [List.length_drop]; omega)
  rw [List.take_append_drop, hl, List.length_drop, show o + 3 = m by omega, show ((x.length - o : Nat) : Int) = (x.length : Int) - (o : Int) by omega] at h
  rw [hmo]
  exact h

theorem one_vals (t : ByteArray) (x : List UInt8) (p o : Nat) (h : (L t).drop p = b64 (x.drop o)) (hl : 3 ≤ (x.drop o).length) :
    ∃ (a1 a2 a3 c0 c1 c2 c3 : UInt8) (v0 v1 v2 v3 : Nat), p + 3 < t.size ∧ x.take (o + 3) = x.take o ++ [a1, a2, a3] ∧ (L t).drop (p + 4) = b64 (x.drop (o + 3)) ∧
      (∀ b w, SrcAt b t w → w.cell? ⟨b, p, none⟩ = some (.int .u8 (c0.toNat : Int)) ∧ w.cell? ⟨b, p + 1, none⟩ = some (.int .u8 (c1.toNat : Int)) ∧ w.cell? ⟨b, p + 2, none⟩ = some (.int .u8 (c2.toNat : Int)) ∧ w.cell? ⟨b, p + 3, none⟩ = some (.int .u8 (c3.toNat : Int))) ∧
      (∀ e w, EncAt e w → w.cell? ⟨e, 64 + c0.toNat, none⟩ = some (.int .u8 (v0 : Int)) ∧ w.cell? ⟨e, 64 + c1.toNat, none⟩ = some (.int .u8 (v1 : Int)) ∧ w.cell? ⟨e, 64 + c2.toNat, none⟩ = some (.int .u8 (v2 : Int)) ∧ w.cell? ⟨e, 64 + c3.toNat, none⟩ = some (.int .u8 (v3 : Int))) ∧
      v0 < 64 ∧ v1 < 64 ∧ v2 < 64 ∧ v3 < 64 ∧ v0 * 262144 + v1 * 4096 + v2 * 64 + v3 = a1.toNat * 65536 + a2.toNat * 256 + a3.toNat := by
  obtain ⟨a1, a2, a3, hp, e1, e2, e3⟩ := one_quad t x p o h hl
  have l1 := a1.toNat_lt
  have l2 := a2.toNat_lt
  have l3 := a3.toNat_lt
  obtain ⟨v0, v1, v2, v3, u0, u1, u2, u3, r⟩ := q4_vals _ _ _ _ _ e3 (by omega)
  refine ⟨a1, a2, a3, t[p], t[p + 1], t[p + 2], t[p + 3], v0, v1, v2, v3, hp, e1, e2, fun b w hS => ⟨hS.2 _ _, hS.2 _ _, hS.2 _ _, hS.2 _ _⟩, fun e w hE => ?_, r⟩
  rw [hE.byte, hE.byte, hE.byte, hE.byte, u0, u1, u2, u3]
  exact ⟨rfl, rfl, rfl, rfl⟩
theorem two_vals (t : ByteArray) (x : List UInt8) (p o : Nat) (h : (L t).drop p = b64 (x.drop o)) (hl : 6 ≤ (x.drop o).length) :
    ∃ (a1 a2 a3 a4 a5 a6 c0 c1 c2 c3 c4 c5 c6 c7 : UInt8) (v0 v1 v2 v3 v4 v5 v6 v7 : Nat), p + 7 < t.size ∧ x.take (o + 6) = x.take o ++ [a1, a2, a3, a4, a5, a6] ∧ (L t).drop (p + 8) = b64 (x.drop (o + 6)) ∧
      (∀ b w, SrcAt b t w → w.cell? ⟨b, p, none⟩ = some (.int .u8 (c0.toNat : Int)) ∧ w.cell? ⟨b, p + 1, none⟩ = some (.int .u8 (c1.toNat : Int)) ∧ w.cell? ⟨b, p + 2, none⟩ = some (.int .u8 (c2.toNat : Int)) ∧ w.cell? ⟨b, p + 3, none⟩ = some (.int .u8 (c3.toNat : Int)) ∧
        w.cell? ⟨b, p + 4, none⟩ = some (.int .u8 (c4.toNat : Int)) ∧ w.cell? ⟨b, p + 5, none⟩ = some (.int .u8 (c5.toNat : Int)) ∧ w.cell? ⟨b, p + 6, none⟩ = some (.int .u8 (c6.toNat : Int)) ∧ w.cell? ⟨b, p + 7, none⟩ = some (.int .u8 (c7.toNat : Int))) ∧
      (∀ e w, EncAt e w → w.cell? ⟨e, 64 + c0.toNat, none⟩ = some (.int .u8 (v0 : Int)) ∧ w.cell? ⟨e, 64 + c1.toNat, none⟩ = some (.int .u8 (v1 : Int)) ∧ w.cell? ⟨e, 64 + c2.toNat, none⟩ = some (.int .u8 (v2 : Int)) ∧ w.cell? ⟨e, 64 + c3.toNat, none⟩ = some (.int .u8 (v3 : Int)) ∧
        w.cell? ⟨e, 64 + c4.toNat, none⟩ = some (.int .u8 (v4 : Int)) ∧ w.cell? ⟨e, 64 + c5.toNat, none⟩ = some (.int .u8 (v5 : Int)) ∧ w.cell? ⟨e, 64 + c6.toNat, none⟩ = some (.int .u8 (v6 : Int)) ∧ w.cell? ⟨e, 64 + c7.toNat, none⟩ = some (.int .u8 (v7 : Int))) ∧
      (v0 < 64 ∧ v1 < 64 ∧ v2 < 64 ∧ v3 < 64 ∧ v0 * 262144 + v1 * 4096 + v2 * 64 + v3 = a1.toNat * 65536 + a2.toNat * 256 + a3.toNat) ∧
      (v4 < 64 ∧ v5 < 64 ∧ v6 < 64 ∧ v7 < 64 ∧ v4 * 262144 + v5 * 4096 + v6 * 64 + v7 = a4.toNat * 65536 + a5.toNat * 256 + a6.toNat) := by
  obtain ⟨a1, a2, a3, a4, a5, a6, hp, e1, e2, e3⟩ := two_quads t x p o h hl
  have l1 := a1.toNat_lt
  have l2 := a2.toNat_lt
  have l3 := a3.toNat_lt
  have l4 := a4.toNat_lt
  have l5 := a5.toNat_lt
  have l6 := a6.toNat_lt
  have f1 : [t[p], t[p + 1], t[p + 2], t[p + 3]] = q4 (a1.toNat * 65536 + a2.toNat * 256 + a3.toNat) := by
    simp only [q4, List.cons_append, List.nil_append, List.cons.injEq, and_true] at e3 ⊢
    simp [e3]
  have f2 : [t[p + 4], t[p + 5], t[p + 6], t[p + 7]] = q4 (a4.toNat * 65536 + a5.toNat * 256 + a6.toNat) := by
    simp only [q4, List.cons_append, List.nil_append, List.cons.injEq, and_true] at e3 ⊢
    simp [e3]
  obtain ⟨v0, v1, v2, v3, u0, u1, u2, u3, r⟩ := q4_vals _ _ _ _ _ f1 (by omega)
  obtain ⟨v4, v5, v6, v7, u4, u5, u6, u7, r'⟩ := q4_vals _ _ _ _ _ f2 (by omega)
  refine ⟨a1, a2, a3, a4, a5, a6, t[p], t[p + 1], t[p + 2], t[p + 3], t[p + 4], t[p + 5], t[p + 6], t[p + 7], v0, v1, v2, v3, v4, v5, v6, v7, hp, e1, e2, fun b w hS => ⟨hS.2 _ _, hS.2 _ _, hS.2 _ _, hS.2 _ _, hS.2 _ _, hS.2 _ _, hS.2 _ _, hS.2 _ _⟩, fun e w hE => ?_, r, r'⟩
  rw [hE.byte, hE.byte, hE.byte, hE.byte, hE.byte, hE.byte, hE.byte, hE.byte, u0, u1, u2, u3, u4, u5, u6, u7]
  exact ⟨rfl, rfl, rfl, rfl, rfl, rfl, rfl, rfl⟩

set_option maxHeartbeats 8000000 in
set_option maxRecDepth 100000 in
theorem decodeB_c (w : World) (d e b m kb Q : Nat) (x : List UInt8) (t : ByteArray) (hd : Fills d m [] w) (hE : EncAt e w) (he : e ≠ d) (hS : SrcAt b t w) (hb : b ≠ d)
    (hm : m = 3 * Q) (hQ : 1 ≤ Q) (ht : t.size = 4 * Q) (hkb : t.size ≤ kb) (hkm : t.size ≤ 4398046511104) (hx : L t = b64 x) (h1 : m ≤ x.length + 2) (h3 : x.length ≤ m) :
    Calls Tryd.prog 59 #[.pointer (some ⟨e, 0, none⟩), .slice (some ⟨d, 0, none⟩) m m, .slice (some ⟨b, 0, none⟩) t.size kb] w (DecPost d m x w) := by
  have HM := Lib.hid hE.range
  have HE := Lib.hid hE
  have HS := Lib.hid hS
  have HD := Lib.hid hd
  have HX := Lib.hid hx
  have m1 : m ≤ 3 * Q := by omega
  have m2 : 3 * Q ≤ m := by omega
  have t1 : t.size ≤ 4 * Q := by omega
  have t2 : 4 * Q ≤ t.size := by omega
  clear hE hS hd hx hm ht
  go_enter Tryd.func59, Tryd.ntmps59
  go_wp2
  refine wp_load_mid 63 (.tmp 23) rfl e 64 rfl mapL _ HM.out Tryd.underlying63 rfl map_info ?_
  obtain ⟨AV, hAV⟩ : ∃ AV : Value, AV = .agg mapL.toArray := ⟨_, rfl⟩
  rw [← hAV]
  clear hAV
  go_wp2
  go_loopw [6, 7, 8] (fun n er si wr => ∃ o p q : Nat, n = .int .i64 (o : Int) ∧ er = .nilIface ∧ si = .int .i64 (p : Int) ∧ o ≤ 3 * q ∧ 3 * q ≤ o ∧ p ≤ 4 * q ∧ 4 * q ≤ p ∧ q + 1 ≤ Q ∧ Fills d m (x.take o) wr ∧ Only d w wr ∧ (L t).drop p = b64 (x.drop o)) (fun _ _ si _ => t.size - (intOf si).toNat)
  case atStart => exact ⟨0, 0, 0, rfl, rfl, rfl, by omega, by omega, by omega, by omega, by omega, HD.out, Only.refl _ _, HX.out⟩
  case round =>
    obtain ⟨o, p, q, rfl, rfl, rfl, ho1, ho2, hp1, hp2, hq, hf, hon, htx⟩ := hrel
    have HF := Lib.hid (And.intro hf (And.intro hon htx))
    clear hf hon htx
    by_cases h8 : q + 3 ≤ Q
    · obtain ⟨a1, a2, a3, a4, a5, a6, c0, c1, c2, c3, c4, c5, c6, c7, v0, v1, v2, v3, v4, v5, v6, v7, hp7, htk, hdr, hs, hm, ⟨r0, r1, r2, r3, r4⟩, r5, r6, r7, r8, r9⟩ := two_vals t x p o HF.out.2.2 (by rw [List.length_drop]; omega)
      obtain ⟨s0, s1, s2, s3, s4, s5, s6, s7⟩ := hs b wr (HS.out.only HF.out.2.1 hb)
      obtain ⟨k0, k1, k2, k3, k4, k5, k6, k7⟩ := hm e wr (HE.out.only HF.out.2.1 he)
      have b0 := c0.toNat_lt
      have b1 := c1.toNat_lt
      have b2 := c2.toNat_lt
      have b3 := c3.toNat_lt
      have b4 := c4.toNat_lt
      have b5 := c5.toNat_lt
      have b6 := c6.toNat_lt
      have b7 := c7.toNat_lt
      have HT := Lib.hid (And.intro htk hdr)
      clear hs hm htk hdr
      go_wp2
      simp only [List.append_eq, List.cons_append, List.nil_append]
      go_quiet (exact Calls.quiet_of_same (still_of (assemble64_c v0 v1 v2 v3 v4 v5 v6 v7 _ r0 r1 r2 r3 r5 r6 r7 r8)))
      go_wp2_with fail
      have hd' : Fills d m (x.take o) (wr.drewN nq) := ⟨HF.out.1.1, HF.out.1.2⟩
      have hl : (x.take o).length = o := by rw [List.length_take]; omega
      have z1 := a1.toNat_lt
      have z2 := a2.toNat_lt
      have z3 := a3.toNat_lt
      have z4 := a4.toNat_lt
      have z5 := a5.toNat_lt
      have z6 := a6.toNat_lt
      refine (put64_c a1 a2 a3 a4 a5 a6 _ d m (x.take o) o _ _ _ hd' hl (by omega) (by omega) ?_ ?_ ?_ ?_ ?_ ?_ ?_ ?_ ?_ ?_).mono ?_
      any_goals (unfold n48; omega)
      rintro r w' ⟨rfl, hf, ho⟩
      have HF' := Lib.hid (And.intro hf ho)
      clear hf ho hd'
      go_wp2
      refine ⟨⟨o + 6, p + 8, q + 2, rfl, rfl, rfl, by omega, by omega, by omega, by omega, by omega, ?_, (HF.out.2.1.drewN nq).trans HF'.out.2, HT.out.2⟩, ?_⟩
      · rw [HT.out.1]
        exact HF'.out.1
      · show t.size - ((p : Int) + 8).toNat < t.size - ((p : Int)).toNat
        omega
    · by_cases h4 : q + 2 ≤ Q
      · have g1 : (t.size : Int) - (p : Int) = 8 := by omega
        have g2 : (m : Int) - (o : Int) = 6 := by omega
        obtain ⟨a1, a2, a3, c0, c1, c2, c3, v0, v1, v2, v3, hp7, htk, hdr, hs, hm, r0, r1, r2, r3, r4⟩ := one_vals t x p o HF.out.2.2 (by rw [List.length_drop]; omega)
        obtain ⟨s0, s1, s2, s3⟩ := hs b wr (HS.out.only HF.out.2.1 hb)
        obtain ⟨k0, k1, k2, k3⟩ := hm e wr (HE.out.only HF.out.2.1 he)
        have b0 := c0.toNat_lt
        have b1 := c1.toNat_lt
        have b2 := c2.toNat_lt
        have b3 := c3.toNat_lt
        have HT := Lib.hid (And.intro htk hdr)
        clear hs hm htk hdr
        go_wp2
        refine wp_loop_rounds 2 ?_
        rw [rounds_succ]
        go_wp2
        go_quiet (exact Calls.quiet_of_same (still_of (assemble32_c v0 v1 v2 v3 _ r0 r1 r2 r3)))
        go_wp2_with fail
        have hd' : Fills d m (x.take o) (wr.drewN nq) := ⟨HF.out.1.1, HF.out.1.2⟩
        have hl : (x.take o).length = o := by rw [List.length_take]; omega
        have z1 := a1.toNat_lt
        have z2 := a2.toNat_lt
        have z3 := a3.toNat_lt
        refine (put32_c a1 a2 a3 _ d m (x.take o) o _ _ _ hd' hl (by omega) (by omega) ?_ ?_ ?_ ?_ ?_ ?_).mono ?_
        any_goals omega
        rintro r w' ⟨rfl, hf, ho⟩
        have hon' : Only d w w' := (HF.out.2.1.drewN nq).trans ho
        rw [← HT.out.1] at hf
        have htx := HT.out.2
        obtain ⟨o', p', ho', hp'⟩ : ∃ o' p' : Nat, o' = o + 3 ∧ p' = p + 4 := ⟨_, _, rfl, rfl⟩
        rw [← ho'] at hf htx
        rw [← hp'] at htx
        have e1 : (o : Int) + 3 = (o' : Int) := by omega
        have e2 : (p : Int) + 4 = (p' : Int) := by omega
        have i1 : o' ≤ 3 * (q + 1) := by omega
        have i2 : 3 * (q + 1) ≤ o' := by omega
        have i3 : p' ≤ 4 * (q + 1) := by omega
        have i4 : 4 * (q + 1) ≤ p' := by omega
        have g3 : (t.size : Int) - (p' : Int) = 4 := by omega
        have g4 : (m : Int) - (o' : Int) = 3 := by omega
        have HQ := Lib.hid (quan_tail w' d e b m kb o' p' (q + 1) x t hf (HE.out.only hon' he) he (HS.out.only hon' hb) hb (by omega) (by omega) (by omega) (by omega) (by omega) hkb (by omega) (by omega) htx)
        have HN := Lib.hid hon'
        clear hf ho hd' hon' htx ho' hp' g1 g2
        go_wp2_with fail
        rw [rounds_succ]
        go_wp2_with fail
        refine wp_loop_rounds 2 ?_
        rw [rounds_succ]
        go_wp2_with fail
        refine HQ.out.mono ?_
        rintro r w' ⟨rfl, hf, ho⟩
        have hr : (o' : Int) + ((x.length : Int) - (o' : Int)) = (x.length : Int) := by omega
        go_wp2_with fail
        rw [rounds_succ]
        go_wp2_with fail
        go_ret2
        exact ⟨rfl, hf, HN.out.trans ho⟩
      · have HQ := Lib.hid (quan_tail wr d e b m kb o p q x t HF.out.1 (HE.out.only HF.out.2.1 he) he (HS.out.only HF.out.2.1 hb) hb (by omega) (by omega) (by omega) (by omega) (by omega) hkb (by omega) (by omega) HF.out.2.2)
        go_wp2
        go_rounds 1
        refine wp_loop_rounds 2 ?_
        rw [rounds_succ]
        go_wp2_with fail
        refine HQ.out.mono ?_
        rintro r w' ⟨rfl, hf, ho⟩
        have hr : (o : Int) + ((x.length : Int) - (o : Int)) = (x.length : Int) := by omega
        go_wp2_with fail
        rw [rounds_succ]
        go_wp2_with fail
        go_ret2
        exact ⟨rfl, hf, HF.out.2.1.trans ho⟩
end Go.Proofs.YtlapehcngmiaaaaDoor
