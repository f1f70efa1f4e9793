/-
  CONTRACTS OF spec's Lower, ASCII AND Chars: for texts of at most 2 to the 40th bytes.
-/
import Derived.Test.YtglffpjobjpmpaaDoorByt
import Derived.Lib.Builder
import Derived.Lib.UnsafeStr
import Derived.Lib.ConvBytes
import Derived.Lib.Case
import Derived.IntWalk
namespace Go.Proofs.YtglffpjobjpmpaaDoor
open Go.RowKit

/-- Block g is a row of bytes as '[]byte(s)' lays it: these bytes, then noughts; the mark lies behind its end. -/
def Rowed (g : Nat) (l : List UInt8) (z : Nat) (w : World) : Prop := w.heap[g]? = some (.cells (Lib.byteCells l ++ List.replicate z (Value.int .u8 0)).toArray 5 (l.length + z, l.length + z + 1))
theorem Rowed.cell {g z : Nat} {l : List UInt8} {w : World} (h : Rowed g l z w) {k : Nat} {c : UInt8} (hk : l[k]? = some c) : w.cell? ⟨g, k, none⟩ = some (.int .u8 (c.toNat : Int)) := by
  have hl : k < l.length := (List.getElem?_eq_some_iff.1 hk).1
  rw [Lib.cell_of_heap h]
  rw [List.getElem?_toArray, List.getElem?_append_left (by simpa [Lib.byteCells] using hl)]
  simp [Lib.byteCells, hk]
theorem Rowed.frozen {g z : Nat} {l : List UInt8} {w : World} (h : Rowed g l z w) {k : Nat} (hk : k < l.length) : w.frozen? ⟨g, k, none⟩ = false := by
  unfold Rowed at h
  simp [World.frozen?, h]
  omega
theorem Rowed.store {g z : Nat} {l : List UInt8} {w : World} (h : Rowed g l z w) {k : Nat} (hk : k < l.length) (c : UInt8) : Rowed g (l.set k c) z (w.setCell ⟨g, k, none⟩ (.int .u8 (c.toNat : Int))) := by
  unfold Rowed at h ⊢
  simp only [World.setCell, Array.getElem?_modify, h]
  simp [Lib.byteCells, List.set_append_left, hk, List.map_set]
theorem rowed_string {g z : Nat} {l : List UInt8} {w : World} (cap : Nat) (h : Rowed g l z w) : (convert 34 9 (.slice (some ⟨g, 0, none⟩) l.length cap)).run Tryd.prog w = .ok (.string ⟨l.toArray⟩) w := by
  refine run_convert_bytes_back w 34 9 5 ⟨g, 0, none⟩ cap l Tryd.underlying34 Tryd.underlying5 Tryd.underlying9 ?_
  intro j hj
  have : ((⟨g, 0, none⟩ : Addr).add j) = ⟨g, j, none⟩ := by simp [Addr.add]; intro h; exact h.symm
  rw [this]
  exact h.cell (List.getElem?_eq_getElem hj)
theorem rowed_made (s : ByteArray) (w : World) : ∃ cap z w1, (convert 9 34 (.string s)).run Tryd.prog w = .ok (.slice (some ⟨w.heap.size, 0, none⟩) s.size cap) w1 ∧ Rowed w.heap.size (L s) z w1 ∧ Below w.heap.size w w1 := by
  refine ⟨_, grownCap w s.size 0 5 - s.size, _, Lib.run_convert_string_bytes w 9 34 5 s Tryd.underlying9 Tryd.underlying34 Tryd.underlying5, ?_, ?_⟩
  · unfold Rowed
    rw [Lib.bytesWorld_at_new]
    have e : Lib.bytesCells w 5 s = (Lib.byteCells (L s) ++ List.replicate (grownCap w s.size 0 5 - s.size) (Value.int .u8 0)).toArray := by
      apply Array.ext'
      simp [Lib.bytesCells, Lib.byteCells, L]
    rw [e]
    simp [Lib.byteCells]
  · refine ⟨?_, ?_, ?_, ?_, fun k hk => Lib.bytesWorld_at_old w _ s k hk⟩
    · simp [Lib.bytesWorld, World.freeze, World.alloc, World.drew, -World.alloc_eq, -World.drew_eq]
    · simp [Lib.bytesWorld, World.freeze, World.alloc, World.drew, -World.alloc_eq, -World.drew_eq]
    · simp [Lib.bytesWorld, World.freeze, World.alloc, World.drew, -World.alloc_eq, -World.drew_eq]
    · rw [Lib.bytesWorld_size]; omega

theorem low_step (l : List UInt8) (k : Nat) (c : UInt8) (h : l[k]? = some c) : ((l.take k).map Lib.lowerB ++ l.drop k).set k (Lib.lowerB c) = (l.take (k + 1)).map Lib.lowerB ++ l.drop (k + 1) := by
  have hl : k < l.length := (List.getElem?_eq_some_iff.1 h).1
  have hd : l.drop k = c :: l.drop (k + 1) := by
    rw [List.drop_eq_getElem_cons hl]
    rw [List.getElem?_eq_getElem hl] at h
    rw [Option.some.inj h]
  have hlen : ((l.take k).map Lib.lowerB).length = k := by simp; omega
  rw [List.set_append_right _ _ (by omega), hlen, Nat.sub_self, hd, List.set_cons_zero, List.take_add_one, h]
  simp
theorem low_same (l : List UInt8) (k : Nat) (c : UInt8) (h : l[k]? = some c) (hc : Lib.isUpperB c = false) : (l.take k).map Lib.lowerB ++ l.drop k = (l.take (k + 1)).map Lib.lowerB ++ l.drop (k + 1) := by
  rw [← low_step l k c h, Lib.lowerB_of_not c hc]
  have hl : k < l.length := (List.getElem?_eq_some_iff.1 h).1
  have hlen : ((l.take k).map Lib.lowerB).length = k := by simp; omega
  have hd : l.drop k = c :: l.drop (k + 1) := by
    rw [List.drop_eq_getElem_cons hl]
    rw [List.getElem?_eq_getElem hl] at h
    rw [Option.some.inj h]
  rw [List.set_append_right _ _ (by omega), hlen, Nat.sub_self, hd, List.set_cons_zero]

set_option maxRecDepth 100000 in
theorem lower_c (s : ByteArray) (w : World) (hs : s.size ≤ 1099511627776) : Calls Tryd.prog 16 #[.string s] w (Makes (.string ⟨(Lib.toLowerA (L s)).toArray⟩) w) := by
  obtain ⟨cap, z, w1, hcv, hrow, hb⟩ := rowed_made s w
  go_enter Tryd.func16, Tryd.ntmps16
  go_wp2_with fail
  go_loopw [10] (fun i wr => ∃ (k : Nat), k ≤ s.size ∧ i = .int .i64 k ∧ Rowed w.heap.size (((L s).take k).map Lib.lowerB ++ (L s).drop k) z wr ∧ Below w.heap.size w wr) (fun i _ => s.size - (intOf i).toNat)
  case atStart => exact ⟨0, Nat.zero_le _, rfl, by simpa using hrow, hb⟩
  case round =>
    obtain ⟨k, hk, rfl, hro, hbel⟩ := hrel
    clear hcv
    by_cases hlt : k < s.size
    · have hd : (L s)[k]? = some s[k] := by unfold L; simp [hlt]; rfl
      have hlen : (((L s).take k).map Lib.lowerB).length = k := by simp [L_length]; omega
      have hat : (((L s).take k).map Lib.lowerB ++ (L s).drop k)[k]? = some s[k] := by
        rw [List.getElem?_append_right (by omega), hlen, Nat.sub_self, List.getElem?_drop]; simpa using hd
      have hkl : k < (((L s).take k).map Lib.lowerB ++ (L s).drop k).length := (List.getElem?_eq_some_iff.1 hat).1
      have hcell := hro.cell hat
      have hfz := hro.frozen hkl
      cases hu : Lib.isUpperB s[k]
      · have HS := Lib.hid (low_same (L s) k _ hd hu)
        have hu' := hu
        rw [Lib.isUpperB_int] at hu'
        clear hd hat hlen hu
        by_cases h65 : (65 : Int) ≤ (s[k].toNat : Int)
        · have d2 : decide ((s[k].toNat : Int) ≤ 90) = false := by simpa [h65] using hu'
          clear hu'
          go_wp2_with fail
          go_roundw
          case rel => exact ⟨k + 1, by omega, by go_num, by rw [← HS.out]; exact hro, hbel⟩
          case measure => simp [intOf]; omega
        · have d2 : decide ((65 : Int) ≤ (s[k].toNat : Int)) = false := by simpa using h65
          clear hu'
          go_wp2_with fail
          go_roundw
          case rel => exact ⟨k + 1, by omega, by go_num, by rw [← HS.out]; exact hro, hbel⟩
          case measure => simp [intOf]; omega
      · have HS := Lib.hid (low_step (L s) k _ hd)
        have hi := Lib.lowerB_int _ hu
        rw [Lib.isUpperB_int, Bool.and_eq_true, decide_eq_true_eq, decide_eq_true_eq] at hu
        obtain ⟨h65, h90⟩ := hu
        have hwr : IntKind.u8.wrap ((s[k].toNat : Int) + 32) = ((Lib.lowerB s[k]).toNat : Int) := by rw [hi]; exact IntWalk.u8_in _ (by omega)
        have hst := hro.store hkl (Lib.lowerB s[k])
        clear hd hat hlen hi
        go_wp2_with fail
        go_roundw
        case rel => exact ⟨k + 1, by omega, by go_num, by rw [← HS.out]; exact hst, hbel.setCell (p := ⟨w.heap.size, k, none⟩) (Nat.le_refl _) _⟩
        case measure => simp [intOf]; omega
    · have hkl : k = s.size := by omega
      have hend : Rowed w.heap.size (Lib.toLowerA (L s)) z wr := by
        have h := hro
        rw [hkl, ← L_length, List.take_length, List.drop_length, List.append_nil] at h
        exact h
      have hcv2 := rowed_string cap hend
      have hln : (Lib.toLowerA (L s)).length = s.size := by simp [Lib.toLowerA, L_length]
      rw [hln] at hcv2
      clear hro hend hln
      go_wp2_with fail
      go_ret
      exact ⟨rfl, hbel⟩

/-- ASCII alone. -/
def asciiB (b : UInt8) : Bool := decide ((b.toNat : Int) < 128)
set_option maxRecDepth 100000 in
theorem ascii_c (s : ByteArray) (w : World) (hs : s.size ≤ 1099511627776) : Calls Tryd.prog 6 #[.string s] w (Pure (.bool ((L s).all asciiB)) w) := by
  go_enter Tryd.func6, Tryd.ntmps6
  go_wp2
  go_loop [3] (fun i => ∃ (k : Nat), k ≤ s.size ∧ i = .int .i64 k ∧ ((L s).drop k).all asciiB = (L s).all asciiB) (fun i => s.size - (intOf i).toNat)
  case atStart => exact ⟨0, Nat.zero_le _, rfl, by simp⟩
  case round =>
    obtain ⟨k, hk, rfl, hno⟩ := hrel
    have HN := Lib.hid hno
    clear hno
    by_cases hlt : k < s.size
    · have hd := L_drop s k hlt
      by_cases h128 : (128 : Int) ≤ (s[k].toNat : Int)
      · have HS := Lib.hid (show (L s).all asciiB = false by
        have h' : asciiB s[k] = false := decide_eq_false (by omega)
        rw [← HN.out, hd, List.all_cons, h']; rfl)
        clear hd
        go_wp2_with fail
        go_ret
        exact ⟨by rw [HS.out]; rfl, rfl⟩
      · have d1 : decide ((128 : Int) ≤ (s[k].toNat : Int)) = false := by simpa using h128
        have HS := Lib.hid (show ((L s).drop (k + 1)).all asciiB = (L s).all asciiB by
          rw [← HN.out, hd, List.all_cons]
          have : asciiB s[k] = true := decide_eq_true (by omega)
          rw [this]; rfl)
        clear hd h128
        go_wp2_with fail
        go_round
        case rel => exact ⟨k + 1, by omega, by go_num, HS.out⟩
        case measure => simp [intOf]; omega
    · have HE := Lib.hid (show (L s).all asciiB = true by
        have h := HN.out
        rw [L_drop_end s k hlt] at h
        simpa using h.symm)
      go_wp2_with fail
      go_ret
      exact ⟨by rw [HE.out]; rfl, rfl⟩

def utf8L : List UInt8 := [117, 116, 102, 45, 56]
def isoL : List UInt8 := [105, 115, 111, 45, 56, 56, 53, 57, 45, 49]
def usL : List UInt8 := [117, 115, 45, 97, 115, 99, 105, 105]
/-- Which charset it is. -/
def charsN (l : List UInt8) : Int := if Lib.toLowerA l = utf8L then 1 else if Lib.toLowerA l = isoL then 2 else if Lib.toLowerA l = usL then 3 else 0

theorem chars_c (s : ByteArray) (w : World) (hs : s.size ≤ 1099511627776) : Calls Tryd.prog 7 #[.string s] w (Makes (.int .i64 (charsN (L s))) w) := by
  have H := Lib.hid (lower_c s w hs)
  obtain ⟨x, hx⟩ : ∃ x, x = Lib.toLowerA (L s) := ⟨_, rfl⟩
  have HX := Lib.hid hx
  have HC := Lib.hid (show charsN (L s) = if x = utf8L then 1 else if x = isoL then 2 else if x = usL then 3 else 0 by rw [hx]; rfl)
  clear hx
  go_enter Tryd.func7, Tryd.ntmps7
  go_wp2_with fail
  refine (H.out).mono ?_
  rintro e w1 ⟨rfl, hb⟩
  rw [← HX.out]
  go_wp2_with fail
  all_goals
    go_ret
    refine ⟨?_, hb⟩
    rw [HC.out]
    simp_all [utf8L, isoL, usL]
end Go.Proofs.YtglffpjobjpmpaaDoor
