/-
  CONTRACT OF encoding/base64's NewEncoding at the standard alphabet: the object that is made.
-/
import Derived.Test.YtdoddigmfckhmaaDoorZero
import Derived.Lib.BufferWrite
import Derived.BigQuiet
import Derived.BigRegion
import Derived.Deep.WholeRow
namespace Go.Proofs.YtdoddigmfckhmaaDoor
open Go.RowKit

def encPre : Array Value := (tab64.map (fun c => Value.int .u8 (c.toNat : Int)) ++ List.replicate 256 (Value.int .u8 0) ++ [Value.int .i32 61, Value.bool false]).toArray
theorem u8One : (Tryd.prog.info? 5).map (·.size) = some 1 := by kernel_rfl
theorem copy_one (s : ByteArray) (w : World) (hs : L s = tab64) :
    (Builtin.copy_ #[38, 9] 3 #[.slice (some ⟨w.heap.size, 0, none⟩) 64 64, .string s]).run Tryd.prog (w.alloc (.cells (zcEnc.setIfInBounds 320 (Value.int .i32 61)) 77)) =
      .ok (goInt 64) (w.alloc (.cells encPre 77)) := by
  have hz : s.size = 64 := by rw [← L_length, hs]; rfl
  have hb : s.data.toList = tab64 := hs
  have e : (zcEnc.setIfInBounds 320 (Value.int .i32 61)).size = 322 := by kernel_rfl
  rw [Lib.run_copy_row_string (P := Tryd.prog) _ 38 9 3 5 w.heap.size 0 64 64 s _ 77 Tryd.underlying38 u8One (heap_alloc_new w _) (by omega) (by rw [e]; omega), World.setRow_alloc_new, hb, hz]
  rw [show ((zcEnc.setIfInBounds 320 (Value.int .i32 61)).toList.take 0 ++ Lib.byteCells tab64 ++ (zcEnc.setIfInBounds 320 (Value.int .i32 61)).toList.drop (0 + 64)).toArray = encPre by kernel_rfl]
  rfl
theorem copy_two (d : ByteArray) (w : World) (hd : d.size = 256) (hr : (encPre.toList.take 64 ++ Lib.byteCells d.data.toList ++ encPre.toList.drop (64 + 256)).toArray = encRow 0) :
    (Builtin.copy_ #[38, 9] 3 #[.slice (some ⟨w.heap.size, 64, none⟩) 256 256, .string d]).run Tryd.prog (w.alloc (.cells encPre 77)) =
      .ok (goInt 256) (w.alloc (.cells (encRow 0) 77)) := by
  have e : encPre.size = 322 := by kernel_rfl
  rw [Lib.run_copy_row_string (P := Tryd.prog) _ 38 9 3 5 w.heap.size 64 256 256 d _ 77 Tryd.underlying38 u8One (heap_alloc_new w _) (by omega) (by rw [e]; omega), World.setRow_alloc_new, hd, hr]
  rfl

set_option maxHeartbeats 1000000 in
set_option maxRecDepth 100000 in
theorem newEncoding_c (s : ByteArray) (w : World) (hs : L s = tab64) : Calls Tryd.prog 38 #[.string s] w (fun e w' => e = .returned (.pointer (some ⟨w.heap.size, 0, none⟩)) ∧ w'.heap[w.heap.size]? = some (.cells (encRow 64) 77 (0, 0)) ∧ Below w.heap.size w w') := by
  have hz : s.size = 64 := by rw [← L_length, hs]; rfl
  have HS := Lib.hid hs
  have hc1 := copy_one s w hs
  clear hs
  have hz0 := zero_enc
  have hz1 := zcEnc_ne
  have hz2 := zcEnc_size
  go_enter Tryd.func38, Tryd.ntmps38
  go_wp2
  rw [copy_two _ w (by kernel_rfl) (by kernel_rfl)]
  clear hc1
  go_wp2
  go_loopw [4] (fun i wr => ∃ q : Nat, q ≤ 64 ∧ i = .int .i64 q ∧ wr.heap[w.heap.size]? = some (.cells (encRow q) 77 (0, 0)) ∧ Below w.heap.size w wr) (fun i _ => 64 - (intOf i).toNat)
  case atStart => exact ⟨0, by omega, rfl, heap_alloc_new w _, (Below.refl _ _).alloc (Nat.le_refl _) _⟩
  case round =>
    obtain ⟨q, hq, rfl, hrow, hbel⟩ := hrel
    by_cases hlt : q < 64
    · have hd := L_drop s q (by omega)
      have hsq : s[q]'(by omega) = tab64.getD q 0 := by
        have h := congrArg List.head? hd
        rw [HS.out, List.head?_cons, List.head?_drop, tab64_at' q hlt] at h
        exact (Option.some.inj h).symm
      obtain ⟨n10, n13⟩ := tab_not ⟨q, hlt⟩
      have t1 : ((s[q].toNat : Int) == 10) = false := beq_no _ 10 _ rfl (by rw [hsq]; exact n10)
      have t2 : ((s[q].toNat : Int) == 13) = false := beq_no _ 13 _ rfl (by rw [hsq]; exact n13)
      have hb := s[q].toNat_lt
      have hcell : wr.cell? ⟨w.heap.size, 64 + s[q].toNat, none⟩ = some (.int .u8 255) := by
        rw [Lib.cell_of_heap hrow, enc_at _ _ hb, hsq]
        rw [enc_get_ints ⟨q, hlt⟩]; rfl
      have hfz : wr.frozen? ⟨w.heap.size, 64 + s[q].toNat, none⟩ = false := Lib.frozen_of_heap hrow _
      have hset : (wr.setCell ⟨w.heap.size, 64 + s[q].toNat, none⟩ (.int .u8 (q : Int))).heap[w.heap.size]? = some (.cells (encRow (q + 1)) 77 (0, 0)) := by
        rw [enc_step q s[q].toNat hlt (by rw [hsq])]
        simp [World.setCell, Array.getElem?_modify, hrow]
      have HR := Lib.hid hset
      clear hset hd hsq n10 n13 hrow
      go_wp2_with fail
      go_quiet (fail)
      obtain ⟨w2, hw2, HR2, hbel2, hcell2, hfz2⟩ : ∃ w2, w2 = wr.drewN nq ∧ (w2.setCell ⟨w.heap.size, 64 + s[q].toNat, none⟩ (.int .u8 (q : Int))).heap[w.heap.size]? = some (.cells (encRow (q + 1)) 77 (0, 0)) ∧ Below w.heap.size w w2 ∧
        w2.cell? ⟨w.heap.size, 64 + s[q].toNat, none⟩ = some (.int .u8 255) ∧ w2.frozen? ⟨w.heap.size, 64 + s[q].toNat, none⟩ = false := ⟨_, rfl, HR.out, below_drewN hbel _, hcell, hfz⟩
      rw [← hw2]
      have HQ := Lib.hid (And.intro HR2 hbel2)
      clear HR hw2 hbel hcell hfz HR2 hbel2
      go_wp2_with fail
      go_region
      go_wp2_with fail
      go_round
      case rel => exact ⟨q + 1, by omega, by go_num, HQ.out.1, below_drewN (HQ.out.2.setCell (p := ⟨w.heap.size, _, none⟩) (Nat.le_refl _) _) 1⟩
      case measure => simp [intOf]; omega
    · obtain rfl : q = 64 := by omega
      go_wp2
      go_ret
      exact ⟨rfl, hrow, hbel⟩

/-- The encoding's object lies at block g. -/
def EncAt (g : Nat) (w : World) : Prop := w.heap[g]? = some (.cells (encRow 64) 77 (0, 0))
theorem EncAt.below {g : Nat} {w w' : World} (h : EncAt g w) (hb : Below w.heap.size w w') : EncAt g w' := by
  have hg : g < w.heap.size := by
    rcases Nat.lt_or_ge g w.heap.size with h1 | h1
    · exact h1
    · unfold EncAt at h
      rw [Array.getElem?_eq_none h1] at h; cases h
  unfold EncAt
  rw [hb.block g hg]; exact h
theorem EncAt.map {g : Nat} {w : World} (h : EncAt g w) (c : Nat) (hc : c < 256) : w.cell? ⟨g, 64 + c, none⟩ = some (.int .u8 (undig (UInt8.ofNat c) : Int)) := by
  rw [Lib.cell_of_heap h, enc_at _ _ hc, enc_undig ⟨c, hc⟩]; rfl
theorem EncAt.byte {g : Nat} {w : World} (h : EncAt g w) (c : UInt8) : w.cell? ⟨g, 64 + c.toNat, none⟩ = some (.int .u8 (undig c : Int)) := by
  rw [h.map _ c.toNat_lt, UInt8.ofNat_toNat]
theorem EncAt.pad {g : Nat} {w : World} (h : EncAt g w) : w.cell? ⟨g, 320, none⟩ = some (.int .i32 61) := by
  rw [Lib.cell_of_heap h]; kernel_rfl
theorem EncAt.strict {g : Nat} {w : World} (h : EncAt g w) : w.cell? ⟨g, 321, none⟩ = some (.bool false) := by
  rw [Lib.cell_of_heap h]; kernel_rfl

set_option maxRecDepth 100000 in
theorem stdEncoding_c (w : World) : Calls Tryd.prog 30 #[] w (fun e w' => e = .returned (.pointer (some ⟨w.heap.size, 0, none⟩)) ∧ EncAt w.heap.size w' ∧ Below w.heap.size w w') := by
  go_enter Tryd.func30, Tryd.ntmps30
  go_wp2_with fail
  refine (newEncoding_c _ _ (by kernel_rfl)).mono ?_
  rintro e w1 ⟨rfl, h1, h2⟩
  go_wp2
  go_ret
  exact ⟨rfl, h1, h2⟩
end Go.Proofs.YtdoddigmfckhmaaDoor
