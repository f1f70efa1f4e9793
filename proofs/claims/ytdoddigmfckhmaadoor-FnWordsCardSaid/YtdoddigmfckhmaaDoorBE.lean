/-
  CONTRACT OF mime's bEncode at UTF-8: what it writes are contents of encoded words of at most 60 bytes each.
-/
import Derived.Test.YtdoddigmfckhmaaDoorEncW
import Derived.Test.YtdoddigmfckhmaaDoorRun
import Derived.Test.YtdoddigmfckhmaaDoorWL
import Derived.Test.YtdoddigmfckhmaaDoorQw
namespace Go.Proofs.YtdoddigmfckhmaaDoor
open Go.RowKit

theorem EncSt.below {eb e b : Nat} {rest : List UInt8} {w w' : World} (h : EncSt eb e b rest w) (hb : Below w.heap.size w w') : EncSt eb e b rest w' := by
  obtain ⟨b0, b1, b2, h1, h2⟩ := h
  exact ⟨b0, b1, b2, h1.of_heap (hb.block eb h1.lt), h2⟩
/-- What a walk carries of the builder and the encoder that writes into it. -/
structure EW (B b eb e : Nat) (acc rest : List UInt8) (w0 w : World) : Prop where
  st : St B b acc w0 w
  en : EncSt eb e b rest w
  ea : EncAt e w
  n1 : e ≠ eb
  n2 : e ≠ b
  n3 : eb ≠ b
  hB : B ≤ eb
  h0 : w0.heap.size ≤ eb
theorem EW.makes {B b eb e : Nat} {acc rest : List UInt8} {w0 w w' : World} (h : EW B b eb e acc rest w0 w) (hb : Below w.heap.size w w') : EW B b eb e acc rest w0 w' :=
  ⟨h.st.makes hb, h.en.below hb, h.ea.below hb, h.n1, h.n2, h.n3, h.hB, h.h0⟩
theorem bytes_below (w : World) (e : TypeId) (t : ByteArray) : Below w.heap.size w (Lib.bytesWorld w e t) :=
  ⟨rfl, rfl, rfl, by rw [Lib.bytesWorld_size]; omega, fun k hk => Lib.bytesWorld_at_old w e t k hk⟩
/-- The piece that is left over by whole quads. -/
def restL (x : List UInt8) : List UInt8 := x.drop (3 * (x.length / 3))
def headB (x : List UInt8) : List UInt8 := b64 (x.take (3 * (x.length / 3)))
theorem head_rest (x : List UInt8) : headB x ++ b64 (restL x) = b64 x := (b64_rest x (x.length / 3) (by omega)).symm
theorem rest_len (x : List UInt8) : (restL x).length ≤ 2 := by unfold restL; rw [List.length_drop]; omega
theorem headB_len (x : List UInt8) : (headB x).length ≤ 2 * x.length + 4 := by unfold headB; rw [b64_len, List.length_take]; omega

theorem piece_c (B b eb e : Nat) (acc : List UInt8) (p : ByteArray) (w0 w : World) (h : EW B b eb e acc [] w0 w) (hp : p.size ≤ 45) (hacc : acc.length ≤ 35184372088832) :
    Calls Tryd.prog 63 #[.pointer (some ⟨eb, 0, none⟩), .slice (some ⟨w.heap.size, 0, none⟩) p.size (grownCap w p.size 0 5)] (Lib.bytesWorld w 5 p)
      (fun r w' => r = .returned (.tuple #[.int .i64 (p.size : Int), .nilIface]) ∧ EW B b eb e (acc ++ headB (L p)) (restL (L p)) w0 w') := by
  have h' := h.makes (bytes_below w 5 p)
  have hl : p.size = (L p).length := (L_length p).symm
  have hoff : Off b w.heap.size (Lib.bytesWorld w 5 p) := h.st.bld.off_new (bytes_below _ _ _) (Nat.le_refl _) (by rw [Lib.bytesWorld_size]; omega)
  have hge : w.heap.size ≠ eb := by
    obtain ⟨b0, b1, b2, h1, _⟩ := h.en
    have := h1.lt
    omega
  have hx : Lie w.heap.size 0 (L p) (Lib.bytesWorld w 5 p) := by
    intro j c hj
    have hjl : j < p.size := by rw [hl]; exact (List.getElem?_eq_some_iff.1 hj).1
    rw [Nat.zero_add, Lib.bytesWorld_cell w _ p j hjl]
    have : p.data.toList.getD j 0 = c := by
      unfold L at hj
      rw [List.getD, hj]; rfl
    rw [this]
  refine (encWrite_c B b eb e w.heap.size 0 p.size (grownCap w p.size 0 5) acc (L p) w0 _ h'.st h'.en h'.ea h.n1 h.n2 h.n3 h.hB h.h0 hoff hge hx (by omega) (by omega) hp (grownCap_ge _ _ _ _) (by omega)).mono ?_
  rintro r w' ⟨rfl, h1, h2, h3⟩
  rw [hl] at h1 h2
  exact ⟨rfl, h1, h2, h3, h.n1, h.n2, h.n3, h.hB, h.h0⟩
theorem close_c (B b eb e : Nat) (acc rest : List UInt8) (w0 w : World) (h : EW B b eb e acc rest w0 w) (hr : rest.length ≤ 2) (hacc : acc.length ≤ 35184372088832) :
    Calls Tryd.prog 62 #[.pointer (some ⟨eb, 0, none⟩)] w (fun r w' => r = .returned .nilIface ∧ EW B b eb e (acc ++ b64 rest) [] w0 w') :=
  (encClose_c B b eb e acc rest w0 w h.st h.en hr h.ea h.n1 h.n2 h.n3 h.hB h.h0 (by omega)).mono fun _ _ ⟨h0, h1, h2, h3⟩ => ⟨h0, h1, h2, h3, h.n1, h.n2, h.n3, h.hB, h.h0⟩
theorem EW.split {B b eb e : Nat} {acc acc' : List UInt8} {w0 w w' : World} (h : EW B b eb e acc [] w0 w) (hst : St B b acc' w0 w') (hb : NB b w w') : EW B b eb e acc' [] w0 w' := by
  obtain ⟨b0, b1, b2, h1, h2⟩ := h.en
  obtain ⟨cs, hrow⟩ := h1.row
  refine ⟨hst, ⟨b0, b1, b2, h1.of_heap (by rw [hb eb _ _ _ h.n3 (by decide) hrow, hrow]), h2⟩, ?_, h.n1, h.n2, h.n3, h.hB, h.h0⟩
  have := h.ea
  unfold EncAt at this ⊢
  exact hb e _ _ _ h.n2 (by decide) this
theorem splitE_c (B b eb e : Nat) (acc : List UInt8) (cs : ByteArray) (w0 w : World) (h : EW B b eb e acc [] w0 w) (hacc : acc.length ≤ 35184372088832) (hcs : cs.size ≤ 1048576) :
    Calls Tryd.prog 34 #[.int .u8 98, .pointer (some ⟨b, 0, none⟩), .string cs] w (fun r w' => r = .returned (.tuple #[]) ∧ EW B b eb e (acc ++ sepL (L cs) 98) [] w0 w') := by
  refine (splitWord_c B b acc 98 cs w w (St.start h.st.bld) hacc hcs).mono ?_
  rintro r w' ⟨rfl, h1⟩
  rw [List.append_assoc, ← sepL] at h1
  exact ⟨rfl, h.split ⟨h1.bld, h.st.nb.trans h1.nb, h.st.bel.trans h1.bel⟩ h1.nb⟩

/-- What stands at the head of the loop. -/
def BAt (B b eb e : Nat) (acc sep : List UInt8) (i last c : Nat) (w0 wr : World) : Prop := ∃ ds, (∀ x ∈ ds, okC false x) ∧ last ≤ i ∧ i ≤ last + c ∧ last + c ≤ i ∧ (0 < i → last < i) ∧ (acc ++ closedL sep ds).length ≤ acc.length + 100 * last ∧ EW B b eb e (acc ++ closedL sep ds) [] w0 wr
/-- What stands behind the call. -/
def BEnd (B b : Nat) (acc sep : List UInt8) (w0 : World) (e : Ending) (w' : World) : Prop := e = .returned (.tuple #[]) ∧ ∃ ds d, (∀ x ∈ ds, okC false x) ∧ okC false d ∧ (acc ++ closedL sep ds ++ d).length ≤ acc.length + 1677721800 ∧ St B b (acc ++ closedL sep ds ++ d) w0 w'

theorem nil_ahead (a : Addr) (w : World) : (nilAhead 207 68 (.pointer (some a)) "Write").run Tryd.prog w = .ok (some false) w := by kernel_rfl

set_option maxHeartbeats 4000000 in
set_option maxRecDepth 100000 in
theorem bEncode_c (B b : Nat) (acc : List UInt8) (cs s : ByteArray) (w0 w : World) (hst : St B b acc w0 w) (hb : b < w0.heap.size) (hc : csOk cs) (hs : s.size ≤ 16777216) (hs0 : 0 < s.size) (hT : Tabs w0) (hB0 : 0 < B) (hB1 : 1 < B) (hacc : acc.length ≤ 1000) :
    Calls Tryd.prog 21 #[.int .u8 98, .pointer (some ⟨b, 0, none⟩), .string cs, .string s] w (BEnd B b acc (sepL (L cs) 98) w0) := by
  have hcs := csOk_size hc
  have hsepl : (sepL (L cs) 98).length = 13 := by simp [sepL, headL, L_length, hcs]
  have HU := Lib.hid (fun w => isUTF8_c cs w hc)
  have HS := Lib.hid (And.intro hst (And.intro hT hsepl))
  have HC := Lib.hid hcs
  have hcv := fun (s : ByteArray) (w : World) => Lib.run_convert_string_bytes (P := Tryd.prog) w 9 38 5 s Tryd.underlying9 Tryd.underlying38 Tryd.underlying5
  have hna := nil_ahead
  clear hst hc hT hcs hsepl
  go_enter Tryd.func21, Tryd.ntmps21
  go_wp2_with fail
  refine (stdEncoding_c _).mono ?_
  rintro r w1 ⟨rfl, hE1, hb1⟩
  have H1 := Lib.hid (And.intro (HS.out.1.makes hb1) (And.intro hE1 hb1.size))
  clear hE1 hb1
  go_wp2_with fail
  refine (newEncoder_c _ b _).mono ?_
  rintro r w2 ⟨rfl, hen, hb2, hz2⟩
  obtain ⟨eb, heb⟩ : ∃ eb, eb = w1.heap.size := ⟨_, rfl⟩
  obtain ⟨e, he⟩ : ∃ e, e = w.heap.size := ⟨_, rfl⟩
  have hEW : EW B b eb e acc [] w0 w2 := by
    have hE1 := H1.out.2.1
    have hlt : w.heap.size < w1.heap.size := by
      unfold EncAt at hE1
      rcases Nat.lt_or_ge w.heap.size w1.heap.size with h1 | h1
      · exact h1
      · rw [Array.getElem?_eq_none h1] at hE1; cases hE1
    have h0 := HS.out.1.bel.size
    have h2 := HS.out.1.bld.2
    rw [heb, he]
    exact ⟨H1.out.1.makes hb2, hen, hE1.below hb2, by omega, by omega, by omega, by omega, by omega⟩
  rw [← heb, ← he] at *
  have H2 := Lib.hid hEW
  clear hen hb2 hz2 heb he hEW
  go_wp2_with fail
  refine (HU.out _).mono ?_
  rintro r w3 ⟨rfl, hb3⟩
  have H3 := Lib.hid (H2.out.makes hb3)
  clear hb3
  go_wp2_with fail
  refine (stdEncoding_c _).mono ?_
  rintro r w4 ⟨rfl, hE4, hb4⟩
  have H4 := Lib.hid (H3.out.makes hb4)
  have HL := Lib.hid (encLen_c _ s.size w4 hE4 (by omega))
  clear hE4 hb4
  go_wp2_with fail
  refine HL.out.mono ?_
  rintro r w5 ⟨rfl, rfl⟩
  by_cases h63 : (s.size + 2) / 3 * 4 ≤ 63
  · have hd : decide (((s.size : Int) + 2) / 3 * 4 ≤ 63) = true := decide_eq_true (by omega)
    have HP := Lib.hid (piece_c B b eb e acc s w0 w4 H4.out (by omega) (by omega))
    have H45 : Hid (s.size ≤ 45) := Lib.hid (by omega)
    clear h63
    go_wp2_with fail
    refine HP.out.mono ?_
    rintro r w5 ⟨rfl, hw5⟩
    have HC2 := Lib.hid (close_c B b eb e _ _ w0 w5 hw5 (rest_len _) (by have := headB_len (L s); rw [L_length] at this; have := H45.out; simp only [List.length_append]; omega))
    clear hw5
    go_wp2_with fail
    refine HC2.out.mono ?_
    rintro r w6 ⟨rfl, hw6⟩
    rw [List.append_assoc, head_rest] at hw6
    have HE := Lib.hid (show BEnd B b acc (sepL (L cs) 98) w0 (.returned (.tuple #[])) w6 from ⟨rfl, [], b64 (L s), by simp, b64_okC _ (by rw [L_length]; exact hs0) (by rw [L_length]; exact H45.out), by (have h1 := H45.out; simp only [closedL, List.flatMap_nil, List.append_nil, List.length_append, b64_len, L_length]; omega), by simpa [closedL] using hw6.st⟩)
    clear hw6
    go_wp2_with fail
    go_returns
    exact HE.out
  · have hd : decide (((s.size : Int) + 2) / 3 * 4 ≤ 63) = false := decide_eq_false (by omega)
    clear h63
    go_wp2_with fail
    go_loopw [9, 10, 12] (fun cl la iv wr => ∃ i last c : Nat, cl = .int .i64 c ∧ la = .int .i64 last ∧ iv = .int .i64 i ∧ i ≤ s.size ∧ c ≤ 45 ∧ BAt B b eb e acc (sepL (L cs) 98) i last c w0 wr) (fun _ _ iv _ => s.size - (intOf iv).toNat)
    case atStart => exact ⟨0, 0, 0, rfl, rfl, rfl, Nat.zero_le _, by omega, [], by simp, by omega, by omega, by omega, by omega, by simp [closedL], by simpa [closedL] using H4.out⟩
    case round =>
      obtain ⟨i, last, c, rfl, rfl, rfl, hi, hc45, ds, h1, h2, h3, h4, h5, h6, hew⟩ := hrel
      have hcs := HC.out
      by_cases hlt : i < s.size
      · have hex : 0 < (s.extract i s.size).size := by rw [← L_length, L_from, List.length_drop, L_length]; omega
        have hTw : Tabs wr := HS.out.2.1.keep hew.st.bel hB0 hB1
        have HRU := Lib.hid (rune_c (s.extract i s.size) wr hTw hex)
        have hez : (s.extract i s.size).size = s.size - i := by rw [← L_length, L_from, List.length_drop, L_length]
        have HEZ := Lib.hid hez
        have HQ := Lib.hid (And.intro h1 (And.intro h6 hew))
        clear hTw hex hez h1 h6 hew
        go_wp2_with fail
        refine HRU.out.mono ?_
        rintro r w5 ⟨rr, k, rfl, k1, k4, ks, hb5⟩
        rw [HEZ.out] at ks
        have H5 := Lib.hid (HQ.out.2.2.makes hb5)
        clear hb5
        by_cases hf : c + k ≤ 45
        · have hd2 : decide ((c : Int) + (k : Int) ≤ 45) = true := decide_eq_true (by omega)
          go_wp2_with fail
          go_roundw
          case rel => exact ⟨i + k, last, c + k, by go_num, rfl, by go_num, by omega, by omega, ds, HQ.out.1, by omega, by omega, by omega, by omega, HQ.out.2.1, H5.out⟩
          case measure => simp [intOf]; omega
        · have hd2 : decide ((c : Int) + (k : Int) ≤ 45) = false := decide_eq_false (by omega)
          obtain ⟨P, hP⟩ : ∃ P, P = s.extract last i := ⟨_, rfl⟩
          have hPz : P.size = i - last := by rw [hP, ← L_length, extract_L, List.length_take, List.length_drop, L_length]; omega
          have hPL : (L P).length = i - last := by rw [L_length]; exact hPz
          have hsl : ∀ w, (Instr.slice 9 (.string s) (some (.int .i64 (last : Int))) (some (.int .i64 (i : Int))) none).run Tryd.prog w = .ok (.string P) w := fun w => by
            rw [hP, run_slice_string w 9 s .i64 .i64 last i Tryd.underlying9 (by omega) (by omega) (by omega)]
            congr 3
          have HP := Lib.hid (fun k => piece_c B b eb e _ P w0 (w5.drewN k) (H5.out.makes (drewN_below w5 k)) (by omega) (by have := HQ.out.2.1; omega))
          have HPZ := Lib.hid (And.intro hPz hPL)
          clear hP hPz hPL
          go_wp2
          go_region_with ((refine (HP.out _).mono ?_); rintro r w6 ⟨rfl, hw6⟩)
          all_goals
            have hhl := headB_len (L P)
            have HC2 := Lib.hid (close_c B b eb e _ _ w0 w6 hw6 (rest_len _) (by have h1 := HQ.out.2.1; have h2 := HPZ.out.2; rw [List.length_append]; omega))
            clear hw6 hhl
            go_wp2_with fail
            refine HC2.out.mono ?_
            rintro r w7 ⟨rfl, hw7⟩
            rw [List.append_assoc, head_rest] at hw7
            have hbl : (b64 (L P)).length ≤ 60 := by rw [b64_len, HPZ.out.2]; omega
            have HBL := Lib.hid hbl
            have H7 := Lib.hid (splitE_c B b eb e _ cs w0 w7 hw7 (by have h1 := HQ.out.2.1; rw [List.length_append]; omega) (by omega))
            clear hw7 hbl
            go_wp2_with fail
            refine H7.out.mono ?_
            rintro r w8 ⟨rfl, hw8⟩
            rw [show acc ++ closedL (sepL (L cs) 98) ds ++ b64 (L P) ++ sepL (L cs) 98 = acc ++ closedL (sepL (L cs) 98) (ds ++ [b64 (L P)]) by rw [closedL_snoc]; simp] at hw8
            have hl8 : (acc ++ closedL (sepL (L cs) 98) (ds ++ [b64 (L P)])).length ≤ acc.length + 100 * i := by
              have h1 := HQ.out.2.1
              have h2 := HBL.out
              have h3' := HS.out.2.2
              rw [closedL_snoc]
              simp only [List.length_append] at h1 ⊢
              omega
            have hok8 : ∀ x ∈ ds ++ [b64 (L P)], okC false x := fun x hx => (List.mem_append.1 hx).elim (HQ.out.1 x) (fun h => (List.mem_singleton.1 h) ▸ b64_okC _ (by rw [HPZ.out.2]; omega) (by rw [HPZ.out.2]; omega))
            have H8 := Lib.hid (And.intro hok8 (And.intro hl8 hw8))
            clear hw8 hl8 hok8
            go_wp2_with fail
            go_roundw
            case rel => exact ⟨i + k, i, k, rfl, rfl, by go_num, by omega, by omega, ds ++ [b64 (L P)], H8.out.1, by omega, by omega, by omega, by omega, H8.out.2.1, H8.out.2.2⟩
            case measure => simp [intOf]; omega
      · have hil : last < s.size := by omega
        obtain ⟨P, hP⟩ : ∃ P, P = s.extract last s.size := ⟨_, rfl⟩
        have hPz : P.size = s.size - last := by rw [hP, ← L_length, L_from, List.length_drop, L_length]
        have hPL : (L P).length = s.size - last := by rw [L_length]; exact hPz
        have hsl : ∀ w, (Instr.slice 9 (.string s) (some (.int .i64 (last : Int))) none none).run Tryd.prog w = .ok (.string P) w := fun w => by
          rw [hP]
          go_simp
          intro hbad
          omega
        have HP := Lib.hid (fun k => piece_c B b eb e _ P w0 (wr.drewN k) (hew.makes (drewN_below wr k)) (by omega) (by omega))
        have HPZ := Lib.hid (And.intro hPz (And.intro hPL (And.intro h1 h6)))
        have r1 : decide (i < s.size) = false := decide_eq_false hlt
        clear hP hPz hPL h1 h6 hew
        go_wp2
        go_region_with ((refine (HP.out _).mono ?_); rintro r w6 ⟨rfl, hw6⟩)
        all_goals
          have hhl := headB_len (L P)
          have HC2 := Lib.hid (close_c B b eb e _ _ w0 w6 hw6 (rest_len _) (by have h1 := HPZ.out.2.2.2; have h2 := HPZ.out.2.1; rw [List.length_append]; omega))
          clear hw6 hhl
          go_wp2_with fail
          refine HC2.out.mono ?_
          rintro r w7 ⟨rfl, hw7⟩
          rw [List.append_assoc, head_rest] at hw7
          have HE := Lib.hid (show BEnd B b acc (sepL (L cs) 98) w0 (.returned (.tuple #[])) w7 from ⟨rfl, ds, b64 (L P), HPZ.out.2.2.1, b64_okC _ (by rw [HPZ.out.2.1]; omega) (by rw [HPZ.out.2.1]; omega), by (have h1 := HPZ.out.2.2.2; rw [List.length_append, b64_len, HPZ.out.2.1]; omega), hw7.st⟩)
          clear hw7
          go_wp2_with fail
          go_end0
          exact HE.out
end Go.Proofs.YtdoddigmfckhmaaDoor
