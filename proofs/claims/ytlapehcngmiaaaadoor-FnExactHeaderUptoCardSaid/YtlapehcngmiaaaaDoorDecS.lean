/-
  CONTRACTS OF encoding/base64's DecodedLen and DecodeString, and of mime's decode at a word in the B encoding.
-/
import Derived.Test.YtlapehcngmiaaaaDoorDecW
import Derived.Test.YtlapehcngmiaaaaDoorDec
import Derived.Lib.ConvBytes
namespace Go.Proofs.YtlapehcngmiaaaaDoor
open Go.RowKit

theorem decLen_c (e n : Nat) (w : World) (hE : EncAt e w) (hn : n ≤ 4398046511104) : Calls Tryd.prog 58 #[.pointer (some ⟨e, 0, none⟩), .int .i64 (n : Int)] w (Pure (.int .i64 ((n / 4 * 3 : Nat) : Int)) w) := by
  have hp := hE.pad
  clear hE
  go_enter Tryd.func58, Tryd.ntmps58
  go_wp2
  go_ret
  exact ⟨by simp, rfl⟩

set_option maxRecDepth 100000 in
theorem decEmpty_c (e d b kd kb : Nat) (w : World) : Calls Tryd.prog 59 #[.pointer (some ⟨e, 0, none⟩), .slice (some ⟨d, 0, none⟩) 0 kd, .slice (some ⟨b, 0, none⟩) 0 kb] w (Pure (.tuple #[.int .i64 0, .nilIface]) w) := by
  go_enter Tryd.func59, Tryd.ntmps59
  go_wp2
  go_ret2
  exact ⟨rfl, rfl⟩

theorem decAll_c (w : World) (d e b m kb Q : Nat) (x : List UInt8) (t : ByteArray) (hd : Fills d m [] w) (hE : EncAt e w) (he : e ≠ d) (hS : SrcAt b t w) (hb : b ≠ d)
    (hm : m = 3 * Q) (ht : t.size = 4 * Q) (hkb : t.size ≤ kb) (hkm : t.size ≤ 4398046511104) (hx : L t = b64 x) (h1 : m ≤ x.length + 2) (h3 : x.length ≤ m) :
    Calls Tryd.prog 59 #[.pointer (some ⟨e, 0, none⟩), .slice (some ⟨d, 0, none⟩) m m, .slice (some ⟨b, 0, none⟩) t.size kb] w (DecPost d m x w) := by
  rcases Nat.eq_zero_or_pos Q with h | h
  · have hm0 : m = 0 := by omega
    have hx0 : x = [] := List.eq_nil_of_length_eq_zero (by omega)
    subst hm0 hx0
    rw [show t.size = 0 by omega]
    refine (decEmpty_c e d b 0 kb w).mono ?_
    rintro r w' ⟨rfl, rfl⟩
    exact ⟨rfl, hd, Only.refl _ _⟩
  · exact decodeB_c w d e b m kb Q x t hd hE he hS hb hm h ht hkb hkm hx h1 h3

theorem bytes_below (w : World) (e : TypeId) (t : ByteArray) : Below w.heap.size w (Lib.bytesWorld w e t) :=
  ⟨rfl, rfl, rfl, by rw [Lib.bytesWorld_size]; omega, fun k hk => Lib.bytesWorld_at_old w e t k hk⟩
theorem bytes_src (w : World) (e : TypeId) (t : ByteArray) : SrcAt w.heap.size t (Lib.bytesWorld w e t) := by
  refine ⟨by rw [Lib.bytesWorld_size]; omega, fun j hj => ?_⟩
  rw [Lib.bytesWorld_cell w e t j hj]
  simp [List.getD, hj]
  rfl
theorem Only.size {d : Nat} {w w' : World} (h : Only d w w') : w.heap.size ≤ w'.heap.size := h.2.2.2.1

set_option maxRecDepth 100000 in
theorem decodeString_c (w : World) (e : Nat) (x : List UInt8) (t : ByteArray) (hE : EncAt e w) (ht : t.size ≤ 1099511627776) (hx : L t = b64 x) :
    Calls Tryd.prog 43 #[.pointer (some ⟨e, 0, none⟩), .string t] w (Got x w) := by
  obtain ⟨m, hm⟩ : ∃ m, m = t.size / 4 * 3 := ⟨_, rfl⟩
  have hmk := pctImpl_make m (by omega)
  have HE := Lib.hid hE
  have HM := Lib.hid hm
  have hmm : m ≤ 1099511627776 := by omega
  have hlen : t.size = (x.length + 2) / 3 * 4 := by rw [← L_length, hx, b64_len]
  have hxm1 : m ≤ x.length + 2 := by omega
  have hxm2 : x.length ≤ m := by omega
  have hel : e < w.heap.size := by
    rcases Nat.lt_or_ge e w.heap.size with h1 | h1
    · exact h1
    · unfold EncAt at hE
      rw [Array.getElem?_eq_none h1] at hE; cases hE
  have hcv := fun w => Lib.run_convert_string_bytes (P := Tryd.prog) w 9 44 5 t Tryd.underlying9 Tryd.underlying44 Tryd.underlying5
  have b1 : Below w.heap.size w (w.alloc (.cells (fillCells m []) 5)) := (Below.refl _ _).alloc (Nat.le_refl _) _
  have s1 : (w.alloc (.cells (fillCells m []) 5)).heap.size = w.heap.size + 1 := by simp
  have f1 : Fills w.heap.size m [] (w.alloc (.cells (fillCells m []) 5)) := ⟨heap_alloc_new w _, Nat.zero_le _⟩
  obtain ⟨W1, hW1⟩ : ∃ W1, W1 = w.alloc (.cells (fillCells m []) 5) := ⟨_, rfl⟩
  rw [← hW1] at b1 s1 f1
  have b2 := bytes_below W1 5 t
  have f2 : Fills w.heap.size m [] (Lib.bytesWorld W1 5 t) := ⟨by rw [b2.block _ (by omega)]; exact f1.1, f1.2⟩
  have HD := Lib.hid (decAll_c (Lib.bytesWorld W1 5 t) w.heap.size e (w.heap.size + 1) m (grownCap W1 t.size 0 5) (t.size / 4) x t f2 ((hE.below b1).below b2) (by omega) (by rw [← s1]; exact bytes_src W1 _ t) (by omega) (by omega) (by omega) (grownCap_ge _ _ _ _) (by omega) hx hxm1 hxm2)
  have HB := Lib.hid (b1.trans (b2.mono (by omega)))
  have HW := Lib.hid hW1
  have HL := Lib.hid (fills_lt f2)
  clear hE hm hx hlen b1 s1 f1 b2 f2 hW1
  go_enter Tryd.func43, Tryd.ntmps43
  go_wp2_with fail
  refine (decLen_c _ t.size _ HE.out (by omega)).mono ?_
  rintro _ _ ⟨rfl, rfl⟩
  rw [← HM.out]
  go_wp2_with fail
  rw [← HW.out]
  refine HD.out.mono ?_
  rintro r w' ⟨rfl, hf, ho⟩
  have HF := Lib.hid (And.intro hf ho)
  clear hf ho
  go_wp2_with fail
  go_ret2
  refine ⟨w.heap.size, m, rfl, Nat.le_refl _, HF.out.1, ?_⟩
  exact HB.out.trans (HF.out.2.below (Nat.le_refl _) HL.out)

theorem decode_b (n : Int) (t : ByteArray) (x : List UInt8) (w : World) (hn : n = 66 ∨ n = 98) (ht : t.size ≤ 1099511627776) (hx : L t = b64 x) : Calls Tryd.prog 31 #[.int .u8 n, .string t] w (Got x w) := by
  have H := Lib.hid (fun e w hE => decodeString_c w e x t hE ht hx)
  clear hx
  rcases hn with rfl | rfl
  · go_enter Tryd.func31, Tryd.ntmps31
    go_wp2_with fail
    refine (stdEncoding_c _).mono ?_
    rintro e w1 ⟨rfl, h1, h2⟩
    go_wp2_with fail
    refine (H.out _ _ h1).mono ?_
    rintro e w2 ⟨g, q, rfl, hg, hf, hb⟩
    go_wp2_with fail
    go_ret2
    exact ⟨g, q, rfl, Nat.le_trans h2.size hg, hf, h2.trans (hb.mono h2.size)⟩
  · go_enter Tryd.func31, Tryd.ntmps31
    go_wp2_with fail
    refine (stdEncoding_c _).mono ?_
    rintro e w1 ⟨rfl, h1, h2⟩
    go_wp2_with fail
    refine (H.out _ _ h1).mono ?_
    rintro e w2 ⟨g, q, rfl, hg, hf, hb⟩
    go_wp2_with fail
    go_ret2
    exact ⟨g, q, rfl, Nat.le_trans h2.size hg, hf, h2.trans (hb.mono h2.size)⟩
end Go.Proofs.YtlapehcngmiaaaaDoor
