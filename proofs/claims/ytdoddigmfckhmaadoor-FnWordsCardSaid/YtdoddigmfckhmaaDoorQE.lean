/-
  CONTRACT OF mime's qEncode at UTF-8: what it writes are contents of encoded words of at most 63 bytes each.
-/
import Derived.Test.YtdoddigmfckhmaaDoorQw
import Derived.Test.YtdoddigmfckhmaaDoorRun
import Derived.Test.YtdoddigmfckhmaaDoorWL
namespace Go.Proofs.YtdoddigmfckhmaaDoor
open Go.RowKit

theorem slice_eq (s : ByteArray) (k n : Nat) (h : k + n ≤ s.size) (w : World) :
    (Instr.slice 9 (.string s) (some (.int .i64 (k : Int))) (some (.int .i64 ((k : Int) + (n : Int)))) none).run Tryd.prog w = .ok (.string (s.extract k (k + n))) w := by
  rw [run_slice_string w 9 s .i64 .i64 k ((k : Int) + (n : Int)) Tryd.underlying9 (by omega) (by omega) (by omega)]
  congr 3
theorem qwB_all : ∀ n : Fin 256, ((qwB (UInt8.ofNat n.val)).all (okB true) && !(qwB (UInt8.ofNat n.val)).isEmpty) = true := by decide +kernel
theorem qwB_ok (c : UInt8) : (∀ x ∈ qwB c, okB true x = true) ∧ 1 ≤ (qwB c).length := by
  have h := qwB_all ⟨c.toNat, c.toNat_lt⟩
  rw [UInt8.ofNat_toNat, Bool.and_eq_true, List.all_eq_true] at h
  refine ⟨h.1, ?_⟩
  cases hq : qwB c with
  | nil => rw [hq] at h; cases h.2
  | cons a r => simp
theorem qwL_ok (l : List UInt8) : ∀ x ∈ qwL l, okB true x = true := by
  intro x hx
  obtain ⟨c, _, hc⟩ := List.mem_flatMap.1 hx
  exact (qwB_ok c).1 x hc
theorem qwL_pos (l : List UInt8) (h : 1 ≤ l.length) : 1 ≤ (qwL l).length := by
  match l, h with
  | c :: r, _ =>
    have := (qwB_ok c).2
    unfold qwL
    rw [List.flatMap_cons, List.length_append]
    omega
def plainS (c : UInt8) : Bool := decide (32 ≤ (c.toNat : Int)) && decide ((c.toNat : Int) ≤ 126) && ((c.toNat : Int) != 61) && ((c.toNat : Int) != 63) && ((c.toNat : Int) != 95)
theorem plainS_len : ∀ n : Fin 256, (!(plainS (UInt8.ofNat n.val)) || (qwB (UInt8.ofNat n.val)).length == 1) = true := by decide +kernel
theorem plainS_one (c : UInt8) (h : plainS c = true) : (qwL [c]).length = 1 := by
  have := plainS_len ⟨c.toNat, c.toNat_lt⟩
  rw [UInt8.ofNat_toNat, h] at this
  simpa [qwL] using this
theorem plainS_yes (c : UInt8) (h : plainS c = true) : decide (32 ≤ (c.toNat : Int)) = true ∧ decide ((c.toNat : Int) ≤ 126) = true ∧ ((c.toNat : Int) != 61) = true ∧ ((c.toNat : Int) != 63) = true ∧ ((c.toNat : Int) != 95) = true := by
  unfold plainS at h
  revert h
  generalize decide (32 ≤ (c.toNat : Int)) = a
  generalize decide ((c.toNat : Int) ≤ 126) = b
  generalize ((c.toNat : Int) != 61) = d
  generalize ((c.toNat : Int) != 63) = e
  generalize ((c.toNat : Int) != 95) = f
  cases a <;> cases b <;> cases d <;> cases e <;> cases f <;> decide
theorem plainS_no (c : UInt8) (h : plainS c = false) : (decide (32 ≤ (c.toNat : Int)) = false) ∨ (decide (32 ≤ (c.toNat : Int)) = true ∧ decide ((c.toNat : Int) ≤ 126) = false) ∨ (decide (32 ≤ (c.toNat : Int)) = true ∧ decide ((c.toNat : Int) ≤ 126) = true ∧ ((c.toNat : Int) != 61) = false) ∨ (decide (32 ≤ (c.toNat : Int)) = true ∧ decide ((c.toNat : Int) ≤ 126) = true ∧ ((c.toNat : Int) != 61) = true ∧ ((c.toNat : Int) != 63) = false) ∨ (decide (32 ≤ (c.toNat : Int)) = true ∧ decide ((c.toNat : Int) ≤ 126) = true ∧ ((c.toNat : Int) != 61) = true ∧ ((c.toNat : Int) != 63) = true ∧ ((c.toNat : Int) != 95) = false) := by
  unfold plainS at h
  revert h
  generalize decide (32 ≤ (c.toNat : Int)) = a
  generalize decide ((c.toNat : Int) ≤ 126) = b
  generalize ((c.toNat : Int) != 61) = d
  generalize ((c.toNat : Int) != 63) = e
  generalize ((c.toNat : Int) != 95) = f
  cases a <;> cases b <;> cases d <;> cases e <;> cases f <;> decide

/-- What stands at the head of the loop. -/
def QAt (B b : Nat) (acc sep : List UInt8) (i c : Nat) (w0 wr : World) : Prop := ∃ ds d, (∀ x ∈ ds, okC true x) ∧ (∀ x ∈ d, okB true x = true) ∧ d.length ≤ c ∧ (0 < i → 1 ≤ d.length) ∧ (i = 0 → c = 0) ∧ (acc ++ closedL sep ds ++ d).length ≤ acc.length + 100 * i ∧ St B b (acc ++ closedL sep ds ++ d) w0 wr
/-- What stands behind the call. -/
def QEnd (B b : Nat) (acc sep : List UInt8) (w0 : World) (e : Ending) (w' : World) : Prop := e = .returned (.tuple #[]) ∧ ∃ ds d, (∀ x ∈ ds, okC true x) ∧ okC true d ∧ (acc ++ closedL sep ds ++ d).length ≤ acc.length + 1677721800 ∧ St B b (acc ++ closedL sep ds ++ d) w0 w'
theorem QAt.piece {B b : Nat} {acc sep p : List UInt8} {i c k m : Nat} {ds : List (List UInt8)} {d : List UInt8} {w0 wr : World} (h1 : ∀ x ∈ ds, okC true x) (h2 : ∀ x ∈ d, okB true x = true) (h3 : d.length ≤ c) (hp : (qwL p).length ≤ m) (hm : m ≤ 3 * k) (h5 : 1 ≤ p.length) (h6 : 1 ≤ k)
    (h7 : (acc ++ closedL sep ds ++ d).length ≤ acc.length + 100 * i + 50) (hst : St B b (acc ++ closedL sep ds ++ d ++ qwL p) w0 wr) : QAt B b acc sep (i + k) (c + m) w0 wr := by
  refine ⟨ds, d ++ qwL p, h1, ?_, ?_, ?_, ?_, ?_, ?_⟩
  · intro x hx
    rcases List.mem_append.1 hx with hx | hx
    · exact h2 x hx
    · exact qwL_ok p x hx
  · rw [List.length_append]; omega
  · intro _
    have := qwL_pos p h5
    rw [List.length_append]; omega
  · intro h; omega
  · rw [← List.append_assoc, List.length_append]
    have := qwL_len p
    omega
  · rw [← List.append_assoc]; exact hst

set_option maxHeartbeats 4000000 in
set_option maxRecDepth 100000 in
theorem qEncode_c (B b : Nat) (acc : List UInt8) (cs s : ByteArray) (w0 w : World) (hst : St B b acc w0 w) (hc : csOk cs) (hs : s.size ≤ 16777216) (hs0 : 0 < s.size) (hT : Tabs w0) (hB0 : 0 < B) (hB1 : 1 < B) (hacc : acc.length ≤ 1000) :
    Calls Tryd.prog 22 #[.int .u8 113, .pointer (some ⟨b, 0, none⟩), .string cs, .string s] w (QEnd B b acc (sepL (L cs) 113) w0) := by
  have hcs := csOk_size hc
  have hsepl : (sepL (L cs) 113).length = 13 := by simp [sepL, headL, L_length, hcs]
  have HU := Lib.hid (fun w => isUTF8_c cs w hc)
  have HS := Lib.hid (And.intro hst (And.intro hT hsepl))
  have HC := Lib.hid hcs
  clear hst hc hT hcs hsepl
  go_enter Tryd.func22, Tryd.ntmps22
  go_wp2_with fail
  refine (HU.out _).mono ?_
  rintro e w1 ⟨rfl, hb1⟩
  have HS1 := Lib.hid (HS.out.1.makes hb1)
  clear hb1
  go_wp2_with fail
  go_loopw [8, 10] (fun cl iv wr => ∃ i c : Nat, cl = .int .i64 c ∧ iv = .int .i64 i ∧ i ≤ s.size ∧ c ≤ 63 ∧ QAt B b acc (sepL (L cs) 113) i c w0 wr) (fun _ iv _ => s.size - (intOf iv).toNat)
  case atStart => exact ⟨0, 0, rfl, rfl, Nat.zero_le _, by omega, [], [], by simp, by simp, by simp, by omega, fun _ => rfl, by simp [closedL], by simpa [closedL] using HS1.out⟩
  case round =>
    obtain ⟨i, c, rfl, rfl, hi, hc63, ds, d, h1, h2, h3, h4, h5, h6, hst⟩ := hrel
    by_cases hlt : i < s.size
    · have hcs := HC.out
      cases hp : plainS s[i]
      · have hcase := plainS_no s[i] hp
        have HQ := Lib.hid (And.intro h1 (And.intro h2 (And.intro h3 (And.intro h4 (And.intro h5 (And.intro h6 hst))))))
        clear hp h1 h2 h3 h4 h5 h6 hst
        have hex : 0 < (s.extract i s.size).size := by rw [← L_length, L_from, List.length_drop, L_length]; omega
        have hTw : Tabs wr := HS.out.2.1.keep HQ.out.2.2.2.2.2.2.bel hB0 hB1
        have HRU := Lib.hid (rune_c (s.extract i s.size) wr hTw hex)
        have hez : (s.extract i s.size).size = s.size - i := by rw [← L_length, L_from, List.length_drop, L_length]
        have HEZ := Lib.hid hez
        clear hTw hex hez
        rcases hcase with t0 | ⟨t0, t1⟩ | ⟨t0, t1, t2⟩ | ⟨t0, t1, t2, t3⟩ | ⟨t0, t1, t2, t3, t4⟩
        all_goals
          go_wp2_with fail
          refine HRU.out.mono ?_
          rintro e w2 ⟨rr, k, rfl, k1, k4, ks, hb2⟩
          rw [HEZ.out] at ks
          have hst2 := HQ.out.2.2.2.2.2.2.makes hb2
          have hsl := slice_eq s i k (by omega)
          obtain ⟨P, hP⟩ : ∃ P, P = s.extract i (i + k) := ⟨_, rfl⟩
          have hPl : (L P).length = k := by rw [hP, extract_L, List.length_take, List.length_drop, L_length]; omega
          have hPz : P.size = k := by rw [← L_length]; exact hPl
          rw [← hP] at hsl
          have HPZ := Lib.hid (And.intro hPl hPz)
          have q1 : (0 : Int) ≤ 3 * (k : Int) := by omega
          clear hP hPl hPz hb2
          by_cases h63 : 63 < c + 3 * k
          · have hd : decide ((63 : Int) < (c : Int) + 3 * (k : Int)) = true := decide_eq_true (by omega)
            have hi0 : 0 < i := by
              rcases Nat.eq_zero_or_pos i with h0 | h0
              · have := HQ.out.2.2.2.2.1 h0; omega
              · exact h0
            have HST := Lib.hid hst2
            have hlen := HQ.out.2.2.2.2.2.1
            have hok : okC true d := ⟨HQ.out.2.2.2.1 hi0, by have := HQ.out.2.2.1; omega, HQ.out.2.1⟩
            have HOK := Lib.hid (And.intro hlen hok)
            clear hst2 hlen hok
            go_wp2_with fail
            refine (splitWord_c B b _ 113 cs w0 _ HST.out (by have := HOK.out.1; omega) (by omega)).mono ?_
            rintro e w3 ⟨rfl, hst3⟩
            rw [show acc ++ closedL (sepL (L cs) 113) ds ++ d ++ [63, 61, 32] ++ headL (L cs) 113 = acc ++ closedL (sepL (L cs) 113) (ds ++ [d]) ++ [] by rw [closedL_snoc, sepL]; simp] at hst3
            have hl3 : (acc ++ closedL (sepL (L cs) 113) (ds ++ [d]) ++ []).length ≤ acc.length + 100 * i + 50 := by
              have h1 := HOK.out.1
              have h2 := HS.out.2.2
              rw [closedL_snoc]
              simp only [List.length_append, List.length_nil] at h1 ⊢
              omega
            have HST3 := Lib.hid (And.intro hst3 hl3)
            clear hst3 hl3
            go_wp2_with fail
            refine (writeQ_c B b _ P w0 _ HST3.out.1 (by have := HST3.out.2; omega) (by have := HPZ.out.2; omega)).mono ?_
            rintro e w4 ⟨rfl, hst4⟩
            have HF := Lib.hid (QAt.piece (c := 0) (m := 3 * k) (k := k) (i := i) (fun x hx => (List.mem_append.1 hx).elim (HQ.out.1 x) (fun h => (List.mem_singleton.1 h) ▸ HOK.out.2)) (fun x hx => by cases hx) (by simp) (by have := qwL_len (L P); rw [HPZ.out.1] at this; exact this) (Nat.le_refl _) (by rw [HPZ.out.1]; exact k1) k1 HST3.out.2 hst4)
            clear hst4
            go_wp2_with fail
            go_roundw
            case rel => exact ⟨i + k, 0 + 3 * k, by go_num, by go_num, by omega, by omega, HF.out⟩
            case measure => simp [intOf]; omega
          · have hd : decide ((63 : Int) < (c : Int) + 3 * (k : Int)) = false := decide_eq_false (by omega)
            have hlen : (acc ++ closedL (sepL (L cs) 113) ds ++ d).length ≤ acc.length + 100 * i + 50 := by have := HQ.out.2.2.2.2.2.1; omega
            have HST := Lib.hid (And.intro hst2 hlen)
            clear hst2 hlen
            go_wp2_with fail
            refine (writeQ_c B b _ P w0 _ HST.out.1 (by have := HST.out.2; omega) (by have := HPZ.out.2; omega)).mono ?_
            rintro e w4 ⟨rfl, hst4⟩
            have HF := Lib.hid (QAt.piece (c := c) (m := 3 * k) (k := k) (i := i) HQ.out.1 HQ.out.2.1 HQ.out.2.2.1 (by have := qwL_len (L P); rw [HPZ.out.1] at this; exact this) (Nat.le_refl _) (by rw [HPZ.out.1]; exact k1) k1 HST.out.2 hst4)
            clear hst4
            go_wp2_with fail
            go_roundw
            case rel => exact ⟨i + k, c + 3 * k, by go_num, by go_num, by omega, by omega, HF.out⟩
            case measure => simp [intOf]; omega
      · obtain ⟨t0, t1, t2, t3, t4⟩ := plainS_yes s[i] hp
        have HQ := Lib.hid (And.intro h1 (And.intro h2 (And.intro h3 (And.intro h4 (And.intro h5 (And.intro h6 hst))))))
        have hsl : ∀ w, (Instr.slice 9 (.string s) (some (.int .i64 (i : Int))) (some (.int .i64 ((i : Int) + 1))) none).run Tryd.prog w = .ok (.string (s.extract i (i + 1))) w := fun w => slice_eq s i 1 (by omega) w
        obtain ⟨P, hP⟩ : ∃ P, P = s.extract i (i + 1) := ⟨_, rfl⟩
        have hPL : L P = [s[i]] := by rw [hP, extract_L, L_drop s i hlt]; simp
        have hPz : P.size = 1 := by rw [← L_length, hPL]; rfl
        have hPq : (qwL (L P)).length = 1 := by rw [hPL]; exact plainS_one _ hp
        rw [← hP] at hsl
        have HPZ := Lib.hid (And.intro hPz (And.intro hPq (show (L P).length = 1 by rw [hPL]; rfl)))
        clear hP hPL hPz hPq hp h1 h2 h3 h4 h5 h6 hst
        by_cases h63 : 63 ≤ c
        · have hd : decide ((63 : Int) < (c : Int) + 1) = true := decide_eq_true (by omega)
          have hi0 : 0 < i := by
            rcases Nat.eq_zero_or_pos i with h0 | h0
            · have := HQ.out.2.2.2.2.1 h0; omega
            · exact h0
          have hlen := HQ.out.2.2.2.2.2.1
          have hok : okC true d := ⟨HQ.out.2.2.2.1 hi0, by have := HQ.out.2.2.1; omega, HQ.out.2.1⟩
          have HOK := Lib.hid (And.intro hlen hok)
          clear hlen hok
          go_wp2_with fail
          refine (splitWord_c B b _ 113 cs w0 _ HQ.out.2.2.2.2.2.2 (by have := HOK.out.1; omega) (by omega)).mono ?_
          rintro e w3 ⟨rfl, hst3⟩
          rw [show acc ++ closedL (sepL (L cs) 113) ds ++ d ++ [63, 61, 32] ++ headL (L cs) 113 = acc ++ closedL (sepL (L cs) 113) (ds ++ [d]) ++ [] by rw [closedL_snoc, sepL]; simp] at hst3
          have hl3 : (acc ++ closedL (sepL (L cs) 113) (ds ++ [d]) ++ []).length ≤ acc.length + 100 * i + 50 := by
            have h1 := HOK.out.1
            have h2 := HS.out.2.2
            rw [closedL_snoc]
            simp only [List.length_append, List.length_nil] at h1 ⊢
            omega
          have HST3 := Lib.hid (And.intro hst3 hl3)
          clear hst3 hl3
          go_wp2_with fail
          refine (writeQ_c B b _ P w0 _ HST3.out.1 (by have := HST3.out.2; omega) (by have := HPZ.out.1; omega)).mono ?_
          rintro e w4 ⟨rfl, hst4⟩
          have HF := Lib.hid (QAt.piece (c := 0) (m := 1) (k := 1) (i := i) (fun x hx => (List.mem_append.1 hx).elim (HQ.out.1 x) (fun h => (List.mem_singleton.1 h) ▸ HOK.out.2)) (fun x hx => by cases hx) (by simp) (by rw [HPZ.out.2.1]; exact Nat.le_refl _) (by omega) (by rw [HPZ.out.2.2]; exact Nat.le_refl _) (Nat.le_refl _) HST3.out.2 hst4)
          clear hst4
          go_wp2_with fail
          go_roundw
          case rel => exact ⟨i + 1, 0 + 1, by go_num, by go_num, by omega, by omega, HF.out⟩
          case measure => simp [intOf]; omega
        · have hd : decide ((63 : Int) < (c : Int) + 1) = false := decide_eq_false (by omega)
          have hlen : (acc ++ closedL (sepL (L cs) 113) ds ++ d).length ≤ acc.length + 100 * i + 50 := by have := HQ.out.2.2.2.2.2.1; omega
          have HLN := Lib.hid hlen
          clear hlen
          go_wp2_with fail
          refine (writeQ_c B b _ P w0 _ HQ.out.2.2.2.2.2.2 (by have := HLN.out; omega) (by have := HPZ.out.1; omega)).mono ?_
          rintro e w4 ⟨rfl, hst4⟩
          have HF := Lib.hid (QAt.piece (c := c) (m := 1) (k := 1) (i := i) HQ.out.1 HQ.out.2.1 HQ.out.2.2.1 (by rw [HPZ.out.2.1]; exact Nat.le_refl _) (by omega) (by rw [HPZ.out.2.2]; exact Nat.le_refl _) (Nat.le_refl _) HLN.out hst4)
          clear hst4
          go_wp2_with fail
          go_roundw
          case rel => exact ⟨i + 1, c + 1, by go_num, by go_num, by omega, by omega, HF.out⟩
          case measure => simp [intOf]; omega
    · obtain rfl : i = s.size := by omega
      have HE := Lib.hid (show QEnd B b acc (sepL (L cs) 113) w0 (.returned (.tuple #[])) wr from ⟨rfl, ds, d, h1, ⟨h4 hs0, by omega, h2⟩, by omega, hst⟩)
      clear h1 h2 h3 h4 h5 h6 hst
      go_wp2_with fail
      go_end0
      exact HE.out
end Go.Proofs.YtdoddigmfckhmaaDoor
