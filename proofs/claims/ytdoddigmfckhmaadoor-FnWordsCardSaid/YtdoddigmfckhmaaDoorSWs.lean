/-
  CONTRACT OF spec's Words at words joined by blanks: true.
-/
import Derived.Test.YtdoddigmfckhmaaDoorSW
namespace Go.Proofs.YtdoddigmfckhmaaDoor
open Go.RowKit

def enOf (q : Bool) : UInt8 := if q then 113 else 98
theorem word_c (q : Bool) (cs s : ByteArray) (c : List UInt8) (w : World) (hc : csOk cs) (hs : L s = wordL (L cs) (enOf q) c) (ho : okC q c) :
    Calls Tryd.prog 14 #[.string s, .string cs, .bool q] w (Pure (.bool true) w) := by
  cases q
  · exact wordB_c cs s c w hc hs ho
  · exact wordQ_c cs s c w hc hs ho
theorem okB_ne (q : Bool) (c : UInt8) (h : okB q c = true) : c ≠ 32 := by
  intro e
  subst e
  revert h
  cases q <;> decide
theorem wordL_nosp (q : Bool) (cs : ByteArray) (c : List UInt8) (hc : csOk cs) (ho : okC q c) : ∀ x ∈ wordL (L cs) (enOf q) c, x ≠ 32 := by
  intro x hx
  have hcs : ∀ x ∈ L cs, x ≠ 32 := by rcases hc with h | h <;> rw [h] <;> decide
  have hen : enOf q ≠ 32 := by cases q <;> decide
  simp only [wordL, headL, List.mem_append, List.mem_cons, List.not_mem_nil, or_false] at hx
  rcases hx with ((rfl | rfl | h | rfl | rfl | rfl) | h) | rfl | rfl
  · decide
  · decide
  · exact hcs x h
  · decide
  · exact hen
  · decide
  · exact okB_ne q x (ho.2.2 x h)
  · decide
  · decide
/-- The first word of a text of words, and what stands behind it. -/
theorem first_word (q : Bool) (cs T : ByteArray) (c : List UInt8) (r : List (List UInt8)) (hc : csOk cs) (ho : okC q c) (hT : L T = joinW ((c :: r).map (wordL (L cs) (enOf q)))) :
    ∃ p, p ≤ 75 ∧ p ≤ T.size ∧ (∀ (j : Nat) (h : j < T.size), j < p → T[j] ≠ 32) ∧ L (T.extract 0 p) = wordL (L cs) (enOf q) c ∧ (r = [] → p = T.size) ∧ (r ≠ [] → ∃ h : p < T.size, T[p] = 32 ∧ L (T.extract (p + 1) T.size) = joinW (r.map (wordL (L cs) (enOf q)))) := by
  have hcs := csOk_size hc
  have hl : (wordL (L cs) (enOf q) c).length = c.length + 12 := by
    simp [wordL, headL, L_length, hcs]
    omega
  have hno := wordL_nosp q cs c hc ho
  obtain ⟨y, hy, hr0, hr1⟩ : ∃ y, L T = wordL (L cs) (enOf q) c ++ y ∧ (r = [] → y = []) ∧ (r ≠ [] → y = 32 :: joinW (r.map (wordL (L cs) (enOf q)))) := by
    match r, hT with
    | [], hT => exact ⟨[], by rw [hT]; simp [joinW], fun _ => rfl, fun h => absurd rfl h⟩
    | a :: r, hT =>
      rw [List.map_cons, joinW_cons _ _ (by simp)] at hT
      exact ⟨_, hT, (fun h => by cases h), fun _ => rfl⟩
  have hsz : T.size = c.length + 12 + y.length := by rw [← L_length, hy, List.length_append, hl]
  refine ⟨c.length + 12, by have := ho.2.1; omega, by omega, ?_, ?_, ?_, ?_⟩
  · intro j h hj
    apply hno
    have h2 := congrArg List.head? (L_drop T j h)
    rw [List.head?_drop, List.head?_cons, hy, List.getElem?_append_left (by omega)] at h2
    exact List.mem_of_getElem? h2
  · rw [L_to, hy, List.take_append_of_le_length (by omega), List.take_of_length_le (by omega)]
  · intro h
    rw [hr0 h] at hsz
    simpa using hsz.symm
  · intro h
    have hy1 := hr1 h
    have hlt : c.length + 12 < T.size := by rw [hy1] at hsz; simp only [List.length_cons] at hsz; omega
    refine ⟨hlt, ?_, ?_⟩
    · have h1 := L_drop T _ hlt
      rw [hy, List.drop_append_of_le_length (by omega), List.drop_eq_nil_of_le (by omega), List.nil_append, hy1] at h1
      exact (List.cons.inj h1).1.symm
    · have h3 : (L T).drop (c.length + 12 + 1) = ((L T).drop (c.length + 12)).drop 1 := by rw [List.drop_drop]
      have h4 : (wordL (L cs) (enOf q) c).drop (c.length + 12) = [] := List.drop_eq_nil_of_le (by omega)
      rw [L_from, h3, hy, List.drop_append_of_le_length (by omega), h4, List.nil_append, hy1]
      rfl

/-- What stands at the head of the loop: words are left. -/
def WAt (q : Bool) (cs T : ByteArray) : Prop := ∃ c r, (∀ x ∈ c :: r, okC q x) ∧ L T = joinW ((c :: r).map (wordL (L cs) (enOf q)))
def szOf : Value → Nat
  | .string s => s.size
  | _ => 0

set_option maxHeartbeats 1000000 in
theorem words_c (q : Bool) (cs T : ByteArray) (w : World) (hc : csOk cs) (hT : WAt q cs T) (hs : T.size ≤ 1099511627776) :
    Calls Tryd.prog 9 #[.string T, .string cs, .bool q] w (Pure (.bool true) w) := by
  have HC := Lib.hid hc
  have HT := Lib.hid hT
  clear hc hT
  go_enter Tryd.func9, Tryd.ntmps9
  go_wp2
  go_loop [0] (fun t => ∃ U : ByteArray, t = .string U ∧ U.size ≤ T.size ∧ WAt q cs U) (fun t => szOf t)
  case atStart => exact ⟨T, rfl, Nat.le_refl _, HT.out⟩
  case round =>
    obtain ⟨U, rfl, hU, c, r, h1, h2⟩ := hrel
    obtain ⟨p, p75, pU, k1, k2, k3, k4⟩ := first_word q cs U c r HC.out (h1 c List.mem_cons_self) h2
    have HW := Lib.hid (fun w => word_c q cs (U.extract 0 p) c w HC.out k2 (h1 c List.mem_cons_self))
    have HK := Lib.hid (And.intro h1 (And.intro k1 (And.intro k3 k4)))
    clear h1 h2 k1 k2 k3 k4
    go_wp2_with fail
    go_loop [7] (fun i => ∃ k : Nat, k ≤ p ∧ i = .int .i64 k) (fun i => p - (intOf i).toNat)
    case atStart => exact ⟨0, Nat.zero_le _, rfl⟩
    case round =>
      obtain ⟨k, hk, rfl⟩ := hrel
      by_cases hlt : k < p
      · have hkU : k < U.size := by omega
        have t1 := bne_no U[k] 32 32 rfl (HK.out.2.1 k hkU hlt)
        go_wp2_with fail
        go_round
        case rel => exact ⟨k + 1, by omega, by go_num⟩
        case measure => simp [intOf]; omega
      · obtain rfl : k = p := by omega
        by_cases hr : r = []
        · have hz := HK.out.2.2.1 hr
          have z1 : U.size ≤ k := by omega
          have z2 : ((k : Int) == (U.size : Int)) = true := beq_iff_eq.2 (by omega)
          clear hr hz
          go_wp2_with fail
          refine (HW.out _).mono ?_
          rintro e w1 ⟨rfl, rfl⟩
          go_wp2_with fail
          go_ret
          exact ⟨rfl, rfl⟩
        · obtain ⟨hkU, h32, hL⟩ := HK.out.2.2.2 hr
          have t1 := bne_yes U[k] 32 32 rfl h32
          have z2 : ((k : Int) == (U.size : Int)) = false := beq_eq_false_iff_ne.2 (by omega)
          have hok : ∀ x ∈ r, okC q x := fun x hx => HK.out.1 x (List.mem_cons_of_mem _ hx)
          obtain ⟨c', r', rfl⟩ : ∃ c' r', r = c' :: r' := by
            match r, hr with
            | c' :: r', _ => exact ⟨c', r', rfl⟩
          obtain ⟨V, hV⟩ : ∃ V, V = U.extract (k + 1) U.size := ⟨_, rfl⟩
          have hVz : V.size = U.size - (k + 1) := by rw [hV, ← L_length, L_from, List.length_drop, L_length]
          have HF := Lib.hid (show WAt q cs V ∧ V.size ≤ T.size ∧ V.size < U.size from ⟨⟨c', r', hok, by rw [hV]; exact hL⟩, by omega, by omega⟩)
          have hsl : ∀ w, (Instr.slice 9 (.string U) (some (.int .i64 ((k : Int) + 1))) none none).run Tryd.prog w = .ok (.string V) w := fun w => by
            rw [hV]
            go_simp
            intro hbad
            omega
          clear hV hVz hL hok hr h32
          go_wp2_with fail
          refine (HW.out _).mono ?_
          rintro e w1 ⟨rfl, rfl⟩
          go_wp2_with fail
          go_round
          case rel => exact ⟨V, rfl, HF.out.2.1, HF.out.1⟩
          case measure => exact HF.out.2.2
end Go.Proofs.YtdoddigmfckhmaaDoor
