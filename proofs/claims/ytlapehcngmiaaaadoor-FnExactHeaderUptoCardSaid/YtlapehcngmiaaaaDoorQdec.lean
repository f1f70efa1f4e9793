/-
  CONTRACTS OF mime's qDecode AND WHAT IT CALLS, for texts that are well formed; and of impl's DecodeQ.
-/
import Derived.Test.YtlapehcngmiaaaaDoorSign
import Derived.Test.YtlapehcngmiaaaaDoorFill
import Derived.Test.YtlapehcngmiaaaaDoorHex
import Derived.BigQuiet
namespace Go.Proofs.YtlapehcngmiaaaaDoor
open Go.RowKit
attribute [local go_sem ↓] Go.wp_at_zero Go.wp_at_succ

/-- The Q encoding l stands for the bytes x. -/
inductive QDec : List UInt8 → List UInt8 → Prop
  | nil : QDec [] []
  | under {r x : List UInt8} : QDec r x → QDec (95 :: r) (32 :: x)
  | hex {a b : UInt8} {r x : List UInt8} : isHex a = true → isHex b = true → QDec r x → QDec (61 :: a :: b :: r) (hexByte a b :: x)
  | plain {c : UInt8} {r x : List UInt8} : plainB c = true → QDec r x → QDec (c :: r) (c :: x)
theorem QDec.len {l x : List UInt8} (h : QDec l x) : x.length ≤ l.length := by
  induction h with
  | nil => simp
  | under _ ih => simpa using ih
  | hex _ _ _ ih => simp; omega
  | plain _ _ ih => simpa using ih

theorem fromHex_c (b : UInt8) (w : World) (h : isHex b = true) : Calls Tryd.prog 73 #[.int .u8 b.toNat] w (Pure (.tuple #[.int .u8 (hexI b), .nilIface]) w) := by
  have hb := b.toNat_lt
  have hi := (isHex_iff b).1 h
  clear h
  rcases hi with ⟨h1, h2⟩ | ⟨h1, h2⟩ | ⟨h1, h2⟩
  · have E := Lib.hid (show hexI b = (b.toNat : Int) - 48 by unfold hexI; rw [if_pos ⟨h1, h2⟩])
    go_enter Tryd.func73, Tryd.ntmps73
    go_wp2
    go_ret2
    exact ⟨by rw [E.out]; rfl, rfl⟩
  · have E := Lib.hid (show hexI b = (b.toNat : Int) - 97 + 10 by unfold hexI; rw [if_neg (by omega), if_neg (by omega), if_pos ⟨h1, h2⟩])
    have d2 : decide ((b.toNat : Int) ≤ 57) = false := by simp; omega
    have d3 : decide ((b.toNat : Int) ≤ 70) = false := by simp; omega
    go_enter Tryd.func73, Tryd.ntmps73
    go_wp2
    go_ret2
    exact ⟨by rw [E.out]; rfl, rfl⟩
  · have E := Lib.hid (show hexI b = (b.toNat : Int) - 65 + 10 by unfold hexI; rw [if_neg (by omega), if_pos ⟨h1, h2⟩])
    have d2 : decide ((b.toNat : Int) ≤ 57) = false := by simp; omega
    go_enter Tryd.func73, Tryd.ntmps73
    go_wp2
    go_ret2
    exact ⟨by rw [E.out]; rfl, rfl⟩

theorem readHexByte_c (a b : UInt8) (w : World) (ha : isHex a = true) (hb : isHex b = true) : Calls Tryd.prog 60 #[.int .u8 a.toNat, .int .u8 b.toNat] w (Pure (.tuple #[.int .u8 ((hexByte a b).toNat : Int), .nilIface]) w) := by
  have h1 := hexI_le a
  have h2 := hexI_le b
  have p1 : 0 ≤ hexI a := of_decide_eq_true ha
  have p2 : 0 ≤ hexI b := of_decide_eq_true hb
  have hor := hex_or _ _ ha hb
  have hsh : IntKind.u8.wrap (hexI a * 16) = hexI a * 16 := IntWalk.u8_in _ (by omega)
  obtain ⟨r, hr⟩ : ∃ r : Int, r = ((hexByte a b).toNat : Int) := ⟨_, rfl⟩
  rw [← hr] at hor ⊢
  have HA := Lib.hid ha
  have HB := Lib.hid hb
  clear ha hb hr
  go_enter Tryd.func60, Tryd.ntmps60
  go_wp2_with (go_at_call 73; refine (fromHex_c _ _ (by first | with_reducible exact HA.out | with_reducible exact HB.out)).mono ?_; rintro e w1 ⟨rfl, rfl⟩)
  go_ret2
  exact ⟨rfl, rfl⟩

theorem drop_cons (s : ByteArray) (k : Nat) {c : UInt8} {r : List UInt8} (h : (L s).drop k = c :: r) : ∃ hk : k < s.size, s[k] = c ∧ (L s).drop (k + 1) = r := by
  by_cases hk : k < s.size
  · refine ⟨hk, ?_⟩
    rw [L_drop s k hk] at h
    exact List.cons.inj h
  · rw [L_drop_end s k hk] at h; cases h

/-- What qDecode hands back: the first bytes of a new row. -/
def Dec (q : Nat) (x : List UInt8) (w : World) (e : Ending) (w' : World) : Prop :=
  e = .returned (.tuple #[.slice (some ⟨w.heap.size, 0, none⟩) x.length q, .nilIface]) ∧ Fills w.heap.size q x w' ∧ Below w.heap.size w w'

theorem plainB_iff (b : UInt8) : plainB b = true → 32 < (b.toNat : Int) ∧ (b.toNat : Int) < 127 ∧ b ≠ 61 ∧ b ≠ 95 := by
  unfold plainB
  simp
  intro h1 h2 h3 _ h5
  exact ⟨by omega, by omega, h3, h5⟩

set_option maxHeartbeats 2000000 in
set_option maxRecDepth 100000 in
theorem qDecode_c (s : ByteArray) (x : List UInt8) (w : World) (hs : s.size ≤ 1099511627776) (hx : QDec (L s) x) : Calls Tryd.prog 44 #[.string s] w (Dec s.size x w) := by
  have hmk := pctImpl_make s.size hs
  have HX := Lib.hid hx
  clear hx
  go_enter Tryd.func44, Tryd.ntmps44
  go_wp2
  go_loopw [5, 6] (fun j i wr => ∃ (q : Nat) (acc rest : List UInt8), q ≤ s.size ∧ i = .int .i64 q ∧ j = .int .i64 acc.length ∧ QDec ((L s).drop q) rest ∧ acc ++ rest = x ∧ acc.length ≤ q ∧ Fills w.heap.size s.size acc wr ∧ Below w.heap.size w wr) (fun _ i _ => s.size - (intOf i).toNat)
  case atStart => exact ⟨0, [], x, Nat.zero_le _, rfl, rfl, by rw [List.drop_zero]; exact HX.out, rfl, Nat.zero_le _, ⟨heap_alloc_new w _, Nat.zero_le _⟩, (Below.refl _ _).alloc (Nat.le_refl _) _⟩
  case round =>
    obtain ⟨q, acc, rest, hq, rfl, rfl, hdec, hacc, haq, hfill, hbel⟩ := hrel
    have HAC := Lib.hid hacc
    clear hacc hmk
    by_cases hlt : q < s.size
    · have hd := L_drop s q hlt
      have hroom : acc.length < s.size := by omega
      have hcell := hfill.cell hroom
      have hfz := hfill.frozen acc.length
      rw [hd] at hdec
      generalize hc : s[q] = c at hdec hd
      generalize ht : (L s).drop (q + 1) = tl at hdec hd
      clear hd
      cases hdec with
      | @under _ rest hdec =>
        have t1 : ((s[q].toNat : Int) == 95) = true := beq_yes _ 95 _ rfl hc
        have HD := Lib.hid (show QDec ((L s).drop (q + 1)) rest ∧ (acc ++ [32]) ++ rest = x from ⟨by rw [ht]; exact hdec, by rw [← HAC.out]; simp⟩)
        clear hdec hc ht
        go_wp2_with fail
        go_roundw
        case rel => exact ⟨q + 1, acc ++ [32], rest, by omega, by go_num, by simp, HD.out.1, HD.out.2, by simp; omega, hfill.step hroom 32, hbel.setCell (p := ⟨w.heap.size, acc.length, none⟩) (Nat.le_refl _) _⟩
        case measure => simp [intOf]; omega
      | @hex a b _ rest ha hb hdec =>
        obtain ⟨k1, s1, ht1⟩ := drop_cons s (q + 1) ht
        obtain ⟨k2, s2, ht2⟩ := drop_cons s (q + 2) ht1
        have t1 : ((s[q].toNat : Int) == 95) = false := beq_no _ 95 _ rfl (by rw [hc]; decide)
        have t2 : ((s[q].toNat : Int) == 61) = true := beq_yes _ 61 _ rfl hc
        have g1 : decide ((s.size : Int) ≤ (q : Int) + 2) = false := by simp; omega
        have HD := Lib.hid (show QDec ((L s).drop (q + 3)) rest ∧ (acc ++ [hexByte a b]) ++ rest = x from ⟨by rw [ht2]; exact hdec, by rw [← HAC.out]; simp⟩)
        subst s1 s2
        clear hdec hc ht ht1 ht2
        go_wp2_with fail
        have hw1 : IntKind.i64.wrap ((q : Int) + 1) = (q : Int) + 1 := IntWalk.i64_in _ (by omega)
        have hw2 : IntKind.i64.wrap ((q : Int) + 2) = (q : Int) + 2 := IntWalk.i64_in _ (by omega)
        have ht1 : ((q : Int) + 1).toNat = q + 1 := by omega
        have ht2 : ((q : Int) + 2).toNat = q + 2 := by omega
        have hp1 : (0 : Int) ≤ (q : Int) + 1 := by omega
        have hp2 : (0 : Int) ≤ (q : Int) + 2 := by omega
        have hq1 : (q : Int) + 1 < (s.size : Int) := by omega
        have hq2 : (q : Int) + 2 < (s.size : Int) := by omega
        have HA := Lib.hid ha
        have HB := Lib.hid hb
        clear ha hb
        go_quiet (exact Calls.quiet_of_same (still_of (readHexByte_c _ _ _ HA.out HB.out)))
        obtain ⟨w2, hw2', hfill2, hbel2⟩ : ∃ w2, w2 = wr.drewN nq ∧ Fills w.heap.size s.size acc w2 ∧ Below w.heap.size w w2 := ⟨_, rfl, hfill, below_drewN hbel _⟩
        rw [← hw2']
        have hcell2 := hfill2.cell hroom
        have hfz2 := hfill2.frozen acc.length
        clear hw2' hfill hbel hcell hfz
        go_wp2_with fail
        go_roundw
        case rel => exact ⟨q + 3, acc ++ [hexByte s[q + 1] s[q + 2]], rest, by omega, by go_num, by simp, HD.out.1, HD.out.2, by simp; omega, hfill2.step hroom _, hbel2.setCell (p := ⟨w.heap.size, acc.length, none⟩) (Nat.le_refl _) _⟩
        case measure => simp [intOf]; omega
      | @plain _ _ rest hp hdec =>
        obtain ⟨p1, p2, p3, p4⟩ := plainB_iff _ hp
        have t1 : ((s[q].toNat : Int) == 95) = false := beq_no _ 95 _ rfl (by rw [hc]; exact p4)
        have t2 : ((s[q].toNat : Int) == 61) = false := beq_no _ 61 _ rfl (by rw [hc]; exact p3)
        have t3 : decide ((s[q].toNat : Int) ≤ 126) = true := by rw [hc]; simp; omega
        have t4 : decide ((32 : Int) ≤ (s[q].toNat : Int)) = true := by rw [hc]; simp; omega
        have HD := Lib.hid (show QDec ((L s).drop (q + 1)) rest ∧ (acc ++ [s[q]]) ++ rest = x from ⟨by rw [ht]; exact hdec, by rw [← HAC.out, hc]; simp⟩)
        clear hdec ht hp p1 p2 p3 p4 hc
        go_wp2_with fail
        go_roundw
        case rel => exact ⟨q + 1, acc ++ [s[q]], rest, by omega, by go_num, by simp, HD.out.1, HD.out.2, by simp; omega, hfill.step hroom _, hbel.setCell (p := ⟨w.heap.size, acc.length, none⟩) (Nat.le_refl _) _⟩
        case measure => simp [intOf]; omega
    · have hend : acc = x := by
        have h := hdec
        rw [L_drop_end s q hlt] at h
        cases h
        simpa using HAC.out
      subst hend
      have b1 : acc.length ≤ s.size := hfill.2
      clear hdec
      go_wp2_with fail
      go_ret2
      exact ⟨rfl, hfill, hbel⟩
end Go.Proofs.YtlapehcngmiaaaaDoor
