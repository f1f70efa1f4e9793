/-
  THE WALK OF FnExactParameter: a parameter is its name in small letters and its value; with the contracts of spec's Blanks and Text (of one parameter) and of laws' zzFits1; where unicode.White_Space lies as the program's text lays it.
-/
import Derived.Test.YteohjnebbndcoaaDoorParam
import Derived.Test.YteohjnebbndcoaaDoorQuote
namespace Go.Proofs.YteohjnebbndcoaaDoor
open Go.RowKit

def blankB (b : UInt8) : Bool := b == 32 || b == 9
theorem blank_sp (b : UInt8) (h : blankB b = true) : Lib.isSp b = true := by
  unfold blankB at h
  unfold Lib.isSp
  rw [Bool.or_eq_true] at h
  rcases h with h | h <;> simp [h]
/-- At most 20 spaces and tabs. -/
def blanksB (l : List UInt8) : Bool := l.all blankB && decide ((l.length : Int) ≤ 20)

set_option maxRecDepth 100000 in
theorem blanks_c (s : ByteArray) (w : World) (hs : s.size ≤ 1099511627776) : Calls Tryd.prog 7 #[.string s] w (Pure (.bool (blanksB (L s))) w) := by
  have hB : blanksB (L s) = ((L s).all blankB && decide ((s.size : Int) ≤ 20)) := by unfold blanksB; rw [L_length]
  have HB := Lib.hid hB
  clear hB
  go_enter Tryd.func7, Tryd.ntmps7
  go_wp2
  go_loop [3] (fun i => ∃ k : Nat, k ≤ s.size ∧ i = .int .i64 k ∧ ((L s).drop k).all blankB = (L s).all blankB) (fun i => s.size - (intOf i).toNat)
  case atStart => exact ⟨0, Nat.zero_le _, rfl, by simp⟩
  case round =>
    obtain ⟨k, hk, rfl, hno⟩ := hrel
    have HN := Lib.hid hno
    clear hno
    by_cases hlt : k < s.size
    · have hd := L_drop s k hlt
      by_cases c32 : s[k] = 32
      · have t32 := bne_yes s[k] 32 32 rfl c32
        have HS := Lib.hid (show ((L s).drop (k + 1)).all blankB = (L s).all blankB by rw [← HN.out, hd, List.all_cons, c32]; rfl)
        clear hd c32
        go_wp2_with fail
        go_round
        case rel => exact ⟨k + 1, by omega, by go_num, HS.out⟩
        case measure => simp [intOf]; omega
      · have t32 := bne_no s[k] 32 32 rfl c32
        by_cases c9 : s[k] = 9
        · have t9 := bne_yes s[k] 9 9 rfl c9
          have HS := Lib.hid (show ((L s).drop (k + 1)).all blankB = (L s).all blankB by rw [← HN.out, hd, List.all_cons, c9]; rfl)
          clear hd c32 c9
          go_wp2_with fail
          go_round
          case rel => exact ⟨k + 1, by omega, by go_num, HS.out⟩
          case measure => simp [intOf]; omega
        · have t9 := bne_no s[k] 9 9 rfl c9
          have HS := Lib.hid (show blanksB (L s) = false by
            rw [HB.out, ← HN.out, hd, List.all_cons]
            have : blankB s[k] = false := by unfold blankB; simp [c32, c9]
            rw [this]; rfl)
          clear hd c32 c9
          go_wp2_with fail
          go_ret
          exact ⟨by rw [HS.out]; rfl, rfl⟩
    · have HS := Lib.hid (show blanksB (L s) = decide ((s.size : Int) ≤ 20) by rw [HB.out, ← HN.out, L_drop_end s k hlt]; rfl)
      go_wp2_with fail
      go_ret
      exact ⟨by rw [HS.out]; rfl, rfl⟩

/-- A parameter as it is written, by its fields. -/
def writtenV (a b n v : ByteArray) (q : Bool) : Value := .agg #[.string a, .string b, .string n, .string v, .bool q]
def fitsB (a b n v : ByteArray) : Bool := decide ((a.size : Int) ≤ 2147483647) && decide ((b.size : Int) ≤ 2147483647) && decide ((n.size : Int) ≤ 2147483647) && decide ((v.size : Int) ≤ 2147483647)
set_option maxRecDepth 100000 in
theorem zzFits1_c (a b n v : ByteArray) (q : Bool) (w : World) : Calls Tryd.prog 5 #[.agg #[.string a, .string b, .string n, .string v, .bool q]] w (Makes (.bool (fitsB a b n v)) w) := by
  have HF : Hid (fitsB a b n v = (decide ((a.size : Int) ≤ 2147483647) && decide ((b.size : Int) ≤ 2147483647) && decide ((n.size : Int) ≤ 2147483647) && decide ((v.size : Int) ≤ 2147483647))) := Lib.hid rfl
  go_enter Tryd.func5, Tryd.ntmps5
  go_wp2
  all_goals
    go_ret
    refine ⟨ret_bool ?_, (Below.refl _ _).alloc (Nat.le_refl _) _⟩
    rw [HF.out]
    simp
    first | omega | (intros; omega)

/-- The text of one parameter. -/
def parT (a b n v : List UInt8) (q : Bool) : List UInt8 := a ++ 59 :: (b ++ (n ++ 61 :: (if q = true then quo v else v)))
theorem parT_len (a b n v : List UInt8) (q : Bool) : (parT a b n v q).length ≤ a.length + b.length + n.length + 2 * v.length + 4 := by
  have := esc_len v
  unfold parT
  split <;> simp [quo] <;> omega

set_option maxHeartbeats 1000000 in
set_option maxRecDepth 100000 in
theorem text_c (g : Nat) (a b n v tx : ByteArray) (q : Bool) (w : World) (ha : a.size ≤ 4294967296) (hb : b.size ≤ 4294967296) (hn : n.size ≤ 4294967296) (hv : v.size ≤ 4294967296) (htx : L tx = parT (L a) (L b) (L n) (L v) q)
    (hg : w.heap[g]? = some (.cells #[.string a, .string b, .string n, .string v, .bool q] 23 (0, 0))) (cap : Nat) :
    Calls Tryd.prog 11 #[.slice (some ⟨g, 0, none⟩) 1 cap] w (Makes (.string tx) w) := by
  have hgl : g < w.heap.size := by
    rcases Nat.lt_or_ge g w.heap.size with h1 | h1
    · exact h1
    · rw [Array.getElem?_eq_none h1] at hg; cases hg
  have c0 : w.cell? ⟨g, 0, none⟩ = some (.string a) := by rw [Lib.cell_of_heap hg]; rfl
  have c1 : w.cell? ⟨g, 1, none⟩ = some (.string b) := by rw [Lib.cell_of_heap hg]; rfl
  have c2 : w.cell? ⟨g, 2, none⟩ = some (.string n) := by rw [Lib.cell_of_heap hg]; rfl
  have c3 : w.cell? ⟨g, 3, none⟩ = some (.string v) := by rw [Lib.cell_of_heap hg]; rfl
  have c4 : w.cell? ⟨g, 4, none⟩ = some (.bool q) := by rw [Lib.cell_of_heap hg]; rfl
  obtain ⟨qv, hqv, hqvs⟩ := text_of (quo (L v))
  have HQ := Lib.hid (show (⟨(quo (L v)).toArray⟩ : ByteArray) = qv from L_inj (by rw [L_mk, hqv]))
  have HQC := Lib.hid fun w => quote_c v w (by omega)
  have hq2 : qv.size ≤ 17179869184 := by
    rw [hqvs, quo]
    have := esc_len (L v)
    rw [L_length] at this
    simp
    omega
  have HT := Lib.hid (show q = true → (⟨#[]⟩ ++ (a ++ ⟨#[59]⟩ ++ b ++ n ++ ⟨#[61]⟩) ++ qv : ByteArray) = tx from fun h => L_inj (by
    rw [htx, parT, if_pos h]
    simp only [append_L, hqv]
    show [] ++ (L a ++ [59] ++ L b ++ L n ++ [61]) ++ quo (L v) = _
    simp))
  have HF := Lib.hid (show q = false → (⟨#[]⟩ ++ (a ++ ⟨#[59]⟩ ++ b ++ n ++ ⟨#[61]⟩) ++ v : ByteArray) = tx from fun h => L_inj (by
    rw [htx, parT, if_neg (by simp [h])]
    simp only [append_L]
    show [] ++ (L a ++ [59] ++ L b ++ L n ++ [61]) ++ L v = _
    simp))
  clear hg htx hqv hqvs
  go_enter Tryd.func11, Tryd.ntmps11
  go_wp2
  go_loopw [3, 8] (fun out i wr => ∃ k : Nat, k ≤ 1 ∧ i = .int .i64 k ∧ (k = 0 → out = .string ⟨#[]⟩) ∧ (k = 1 → out = .string tx) ∧ Below w.heap.size w wr) (fun _ i _ => 1 - (intOf i).toNat)
  case atStart => exact ⟨0, by omega, rfl, fun _ => rfl, (fun h => by cases h), Below.refl _ _⟩
  case round =>
    obtain ⟨k, hk, rfl, h0, h1, hbel⟩ := hrel
    rcases k with _ | _ | k
    · obtain rfl := h0 rfl
      have a0 := (hbel.cell (p := ⟨g, 0, none⟩) hgl).trans c0
      have a1 := (hbel.cell (p := ⟨g, 1, none⟩) hgl).trans c1
      have a2 := (hbel.cell (p := ⟨g, 2, none⟩) hgl).trans c2
      have a3 := (hbel.cell (p := ⟨g, 3, none⟩) hgl).trans c3
      have a4 := (hbel.cell (p := ⟨g, 4, none⟩) hgl).trans c4
      clear c0 c1 c2 c3 c4 h0 h1
      cases q
      · have HR := Lib.hid (HF.out rfl)
        clear HF HT
        go_wp2_with fail
        go_roundw
        case rel => exact ⟨1, by omega, by go_num, (fun h => by cases h), (fun _ => by rw [← HR.out]), hbel.alloc hbel.size _⟩
        case measure => simp [intOf]
      · have HR := Lib.hid (HT.out rfl)
        clear HF HT
        go_wp2_with fail
        refine (HQC.out _).mono ?_
        rintro e w1 ⟨rfl, hb1⟩
        rw [HQ.out]
        go_wp2_with fail
        go_roundw
        case rel => exact ⟨1, by omega, by go_num, (fun h => by cases h), (fun _ => by rw [← HR.out]), (hbel.alloc hbel.size _).trans (hb1.mono (by have := hbel.size; simp; omega))⟩
        case measure => simp [intOf]
    · obtain rfl := h1 rfl
      go_wp2_with fail
      go_ret
      exact ⟨rfl, hbel⟩
    · omega
end Go.Proofs.YteohjnebbndcoaaDoor
