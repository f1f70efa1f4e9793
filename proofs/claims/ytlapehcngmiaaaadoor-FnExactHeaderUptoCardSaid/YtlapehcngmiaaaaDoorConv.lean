/-
  CONTRACT OF mime's convert: what bytes in a charset say is written onto the builder; for each of the three charsets.
-/
import Derived.Test.YtlapehcngmiaaaaDoorWr
namespace Go.Proofs.YtlapehcngmiaaaaDoor
open Go.RowKit

theorem charsN_one (l : List UInt8) (h : charsN l = 1) : Lib.toLowerA l = utf8L := by
  unfold charsN at h
  split at h
  · assumption
  · split at h
    · cases h
    · split at h <;> cases h
theorem charsN_two (l : List UInt8) (h : charsN l = 2) : Lib.toLowerA l = isoL := by
  unfold charsN at h
  split at h
  · cases h
  · split at h
    · assumption
    · split at h <;> cases h
theorem charsN_three (l : List UInt8) (h : charsN l = 3) : Lib.toLowerA l = usL := by
  unfold charsN at h
  split at h
  · cases h
  · split at h
    · cases h
    · split at h
      · assumption
      · cases h

/-- The three tests. -/
theorem fold_test (k c : ByteArray) (low : List UInt8) (w : World) (hk : Lib.toLowerA (L k) = L k) (hks : k.size < 4294967281) (hka : (L k).all asciiB = true) (hc : (L c).all asciiB = true) (hl : Lib.toLowerA (L c) = low) (r : Bool) (hr : decide (L k = low) = r) :
    Calls Tryd.prog 45 #[.string k, .string c] w (Pure (.bool r) w) := by
  have h := equalFold_c k c w hks hka hc
  rw [hk, hl, hr] at h
  exact h

set_option maxRecDepth 100000 in
theorem convert_utf8 (d : Value) (B b g o q : Nat) (l x : List UInt8) (cs : ByteArray) (w : World) (hn : charsN (L cs) = 1) (h : Bld B b l w) (hg : Off b g w) (hx : Lies g o x w) (hlen : l.length + x.length ≤ 140737488355328) :
    Calls Tryd.prog 33 #[d, .pointer (some ⟨b, 0, none⟩), .string cs, .slice (some ⟨g, o, none⟩) x.length q] w fun e w' => e = .returned .nilIface ∧ Bld B b (l ++ x) w' ∧ Below B w w' := by
  have H1 : Hid (∀ w, Calls Tryd.prog 45 #[.string ⟨#[117, 116, 102, 45, 56]⟩, .string cs] w (Pure (.bool true) w)) := Lib.hid fun w =>
    fold_test ⟨#[117, 116, 102, 45, 56]⟩ cs utf8L w rfl (by decide) (by decide) (charsN_ascii _ (by rw [hn]; decide)) (charsN_one _ hn) true (by decide)
  clear hn
  go_enter Tryd.func33, Tryd.ntmps33
  go_wp2_with (first
    | (go_at_call 45; refine (H1.out _).mono ?_; rintro e w1 ⟨rfl, rfl⟩)
    | (go_at_call 46; refine (write_c B b g o q l x _ h hg hx hlen).mono ?_; rintro e w1 ⟨rfl, hbld1, hb1⟩))
  go_ret
  exact ⟨rfl, hbld1, hb1⟩

/-- A byte of the source, as the loop reads it. -/
theorem Lies.cell {g o : Nat} {x : List UInt8} {w : World} (h : Lies g o x w) (k : Nat) (hk : k < x.length) : w.cell? ⟨g, o + k, none⟩ = some (.int .u8 (x[k].toNat : Int)) := h k _ (List.getElem?_eq_getElem hk)

set_option maxRecDepth 100000 in
theorem convert_iso (d : Value) (B b g o q : Nat) (l x : List UInt8) (cs : ByteArray) (w : World) (hn : charsN (L cs) = 2) (h : Bld B b l w) (hg : g < B) (hx : Lies g o x w) (hlen : l.length + 4 * x.length + 4 ≤ 140737488355328) :
    Calls Tryd.prog 33 #[d, .pointer (some ⟨b, 0, none⟩), .string cs, .slice (some ⟨g, o, none⟩) x.length q] w fun e w' => e = .returned .nilIface ∧ Bld B b (l ++ latin x) w' ∧ Below B w w' := by
  have H1 : Hid (∀ w, Calls Tryd.prog 45 #[.string ⟨#[117, 116, 102, 45, 56]⟩, .string cs] w (Pure (.bool false) w)) := Lib.hid fun w =>
    fold_test ⟨#[117, 116, 102, 45, 56]⟩ cs isoL w rfl (by decide) (by decide) (charsN_ascii _ (by rw [hn]; decide)) (charsN_two _ hn) false (by decide)
  have H2 : Hid (∀ w, Calls Tryd.prog 45 #[.string ⟨#[105, 115, 111, 45, 56, 56, 53, 57, 45, 49]⟩, .string cs] w (Pure (.bool true) w)) := Lib.hid fun w =>
    fold_test ⟨#[105, 115, 111, 45, 56, 56, 53, 57, 45, 49]⟩ cs isoL w rfl (by decide) (by decide) (charsN_ascii _ (by rw [hn]; decide)) (charsN_two _ hn) true (by decide)
  clear hn
  go_enter Tryd.func33, Tryd.ntmps33
  go_wp2_with fail
  refine (H1.out _).mono ?_
  rintro e w1 ⟨rfl, rfl⟩
  go_wp2_with fail
  refine (H2.out _).mono ?_
  rintro e w1 ⟨rfl, rfl⟩
  go_wp2_with fail
  go_loopw [58] (fun i wr => ∃ (k : Nat), k ≤ x.length ∧ i = .int .i64 k ∧ Bld B b (l ++ latin (x.take k)) wr ∧ Below B w wr) (fun i _ => x.length - (intOf i).toNat)
  case atStart => exact ⟨0, Nat.zero_le _, rfl, by simpa [latin] using h, Below.refl _ _⟩
  case round =>
    obtain ⟨k, hk, rfl, hbld, hbel⟩ := hrel
    by_cases hlt : k < x.length
    · have hc := (hbel.cell (p := ⟨g, o + k, none⟩) hg).trans (hx.cell k hlt)
      have hb := x[k].toNat_lt
      have hll := latin_len (x.take k)
      have htk : (x.take k).length ≤ k := List.length_take_le _ _
      have HS := Lib.hid (show latin (x.take (k + 1)) = latin (x.take k) ++ Lib.encodeRune (x[k].toNat : Int) by
        rw [List.take_add_one, List.getElem?_eq_getElem hlt]; simp only [latin, Option.toList, List.flatMap_append, List.flatMap_cons, List.flatMap_nil, List.append_nil])
      obtain ⟨c, hce⟩ : ∃ c, c = x[k] := ⟨_, rfl⟩
      rw [← hce] at hc HS hb
      clear hce
      go_wp2_with (go_at_call 47; refine (writeRune_c B b (l ++ latin (x.take k)) _ _ hbld (by omega) (by omega) (by rw [List.length_append]; omega)).mono ?_; rintro e w1 ⟨rfl, hbld1, hb1⟩)
      go_roundw
      case rel => exact ⟨k + 1, by omega, by go_num, by rw [HS.out, ← List.append_assoc]; exact hbld1, hbel.trans hb1⟩
      case measure => simp [intOf]; omega
    · obtain rfl : k = x.length := by omega
      rw [List.take_length] at hbld
      go_wp2_with fail
      go_ret
      exact ⟨rfl, hbld, hbel⟩

set_option maxRecDepth 100000 in
theorem convert_us (d : Value) (B b g o q : Nat) (l x : List UInt8) (cs : ByteArray) (w : World) (hn : charsN (L cs) = 3) (h : Bld B b l w) (hg : g < B) (hx : Lies g o x w) (ha : x.all asciiB = true) (hlen : l.length + x.length ≤ 140737488355328) :
    Calls Tryd.prog 33 #[d, .pointer (some ⟨b, 0, none⟩), .string cs, .slice (some ⟨g, o, none⟩) x.length q] w fun e w' => e = .returned .nilIface ∧ Bld B b (l ++ x) w' ∧ Below B w w' := by
  have H1 : Hid (∀ w, Calls Tryd.prog 45 #[.string ⟨#[117, 116, 102, 45, 56]⟩, .string cs] w (Pure (.bool false) w)) := Lib.hid fun w =>
    fold_test ⟨#[117, 116, 102, 45, 56]⟩ cs usL w rfl (by decide) (by decide) (charsN_ascii _ (by rw [hn]; decide)) (charsN_three _ hn) false (by decide)
  have H2 : Hid (∀ w, Calls Tryd.prog 45 #[.string ⟨#[105, 115, 111, 45, 56, 56, 53, 57, 45, 49]⟩, .string cs] w (Pure (.bool false) w)) := Lib.hid fun w =>
    fold_test ⟨#[105, 115, 111, 45, 56, 56, 53, 57, 45, 49]⟩ cs usL w rfl (by decide) (by decide) (charsN_ascii _ (by rw [hn]; decide)) (charsN_three _ hn) false (by decide)
  have H3 : Hid (∀ w, Calls Tryd.prog 45 #[.string ⟨#[117, 115, 45, 97, 115, 99, 105, 105]⟩, .string cs] w (Pure (.bool true) w)) := Lib.hid fun w =>
    fold_test ⟨#[117, 115, 45, 97, 115, 99, 105, 105]⟩ cs usL w rfl (by decide) (by decide) (charsN_ascii _ (by rw [hn]; decide)) (charsN_three _ hn) true (by decide)
  have HA := Lib.hid (List.all_eq_true.1 ha)
  clear hn ha
  go_enter Tryd.func33, Tryd.ntmps33
  go_wp2_with fail
  refine (H1.out _).mono ?_
  rintro e w1 ⟨rfl, rfl⟩
  go_wp2_with fail
  refine (H2.out _).mono ?_
  rintro e w1 ⟨rfl, rfl⟩
  go_wp2_with fail
  refine (H3.out _).mono ?_
  rintro e w1 ⟨rfl, rfl⟩
  go_wp2_with fail
  go_loopw [72] (fun i wr => ∃ (k : Nat), k ≤ x.length ∧ i = .int .i64 k ∧ Bld B b (l ++ x.take k) wr ∧ Below B w wr) (fun i _ => x.length - (intOf i).toNat)
  case atStart => exact ⟨0, Nat.zero_le _, rfl, by simpa using h, Below.refl _ _⟩
  case round =>
    obtain ⟨k, hk, rfl, hbld, hbel⟩ := hrel
    by_cases hlt : k < x.length
    · have hc := (hbel.cell (p := ⟨g, o + k, none⟩) hg).trans (hx.cell k hlt)
      have hb : (x[k].toNat : Int) < 128 := of_decide_eq_true (HA.out x[k] (List.getElem_mem hlt))
      have htk : (x.take k).length ≤ k := List.length_take_le _ _
      have HS := Lib.hid (show x.take (k + 1) = x.take k ++ [x[k]] by rw [List.take_add_one, List.getElem?_eq_getElem hlt]; rfl)
      obtain ⟨c, hce⟩ : ∃ c, c = x[k] := ⟨_, rfl⟩
      rw [← hce] at hc HS hb
      clear hce
      go_wp2_with (go_at_call 48; refine (writeByte_c B b (l ++ x.take k) _ _ hbld (by rw [List.length_append]; omega)).mono ?_; rintro e w1 ⟨rfl, hbld1, hb1⟩)
      go_roundw
      case rel => exact ⟨k + 1, by omega, by go_num, by rw [HS.out, ← List.append_assoc]; exact hbld1, hbel.trans hb1⟩
      case measure => simp [intOf]; omega
    · obtain rfl : k = x.length := by omega
      rw [List.take_length] at hbld
      go_wp2_with fail
      go_ret
      exact ⟨rfl, hbld, hbel⟩

/-- A block that lies below the call's own is none of the builder's. -/
theorem Bld.off {B b g : Nat} {l : List UInt8} {w : World} (h : Bld B b l w) (hg : g < B) : Off b g w := by
  obtain ⟨hI, hBw⟩ := h
  have key : ∀ p0, Lib.BuilderAt 55 5 B b p0 (Lib.byteCells l) w → Off b g w := by
    rintro p0 ⟨hB, v0, hb0, hown, hne⟩
    refine ⟨by omega, by omega, ?_⟩
    intro p v T fr hb
    rw [hb0] at hb
    simp only [Option.some.injEq, Obj.cells.injEq] at hb
    have h2 := hb.1
    simp at h2
    rw [← h2.2]
    rcases hown.2 with ⟨rfl, _⟩ | ⟨g', cap, cur, rfl, hBg, _⟩
    · simp [Value.ownBlock]
    · simp only [Value.ownBlock]; intro e; simp at e; omega
  rcases hI with h | h
  · exact key _ h
  · exact key _ h

/-- What convert writes. -/
def convB (n : Int) (x : List UInt8) : List UInt8 := if n = 2 then latin x else x
theorem convert_c (d : Value) (B b g o q : Nat) (l x : List UInt8) (cs : ByteArray) (w : World) (hn : charsN (L cs) ≠ 0) (ha : charsN (L cs) = 3 → x.all asciiB = true) (h : Bld B b l w) (hg : g < B) (hx : Lies g o x w) (hlen : l.length + 4 * x.length + 4 ≤ 140737488355328) :
    Calls Tryd.prog 33 #[d, .pointer (some ⟨b, 0, none⟩), .string cs, .slice (some ⟨g, o, none⟩) x.length q] w fun e w' => e = .returned .nilIface ∧ Bld B b (l ++ convB (charsN (L cs)) x) w' ∧ Below B w w' := by
  rcases charsN_cases (L cs) with e | e | e | e
  · have := convert_utf8 d B b g o q l x cs w e h (h.off hg) hx (by omega)
    rw [e]; exact this
  · have := convert_iso d B b g o q l x cs w e h hg hx hlen
    rw [e]; exact this
  · have := convert_us d B b g o q l x cs w e h hg hx (ha e) (by omega)
    rw [e]; exact this
  · exact absurd e hn
end Go.Proofs.YtlapehcngmiaaaaDoor
