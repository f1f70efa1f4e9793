/-
  SLICES OF PAIRS (a name and a value each): what the argument looks like in memory; laws' zzFits2 and zzFits3.
-/
import Derived.Test.YtglffpjobjpmpaaDoorStr
import Derived.Deep.DrawnRows
import Derived.IntWalk
namespace Go.Proofs.YtglffpjobjpmpaaDoor
open Go.RowKit
attribute [local go_sem ↓] Go.wp_at_zero Go.wp_at_succ

structure Pr where
  n : ByteArray
  v : ByteArray

/-- v is a slice that holds the pairs l. -/
def Prs (v : Value) (l : List Pr) (w : World) : Prop :=
  ∃ p c, v = .slice p l.length c ∧ l.length ≤ c ∧ c ≤ maxLen ∧ (l = [] ∨ ∃ g o, p = some ⟨g, o, none⟩ ∧ g < w.heap.size ∧
    ∀ i x, l[i]? = some x → w.cell? ⟨g, o + i * 2, none⟩ = some (.string x.n) ∧ w.cell? ⟨g, o + i * 2 + 1, none⟩ = some (.string x.v))
theorem Prs.below {v : Value} {l : List Pr} {w w' : World} (h : Prs v l w) (hb : Below w.heap.size w w') : Prs v l w' := by
  obtain ⟨p, c, hv, h1, h2, h3⟩ := h
  refine ⟨p, c, hv, h1, h2, ?_⟩
  rcases h3 with h3 | ⟨g, o, hp, hg, hc⟩
  · exact .inl h3
  · refine .inr ⟨g, o, hp, Nat.lt_of_lt_of_le hg hb.size, fun i x hi => ?_⟩
    have := hc i x hi
    refine ⟨?_, ?_⟩
    · rw [hb.cell (p := ⟨g, _, none⟩) hg]; exact this.1
    · rw [hb.cell (p := ⟨g, _, none⟩) hg]; exact this.2

set_option maxRecDepth 100000 in
theorem zzFits3_c (n v : ByteArray) (w : World) (h1 : n.size ≤ 2147483647) (h2 : v.size ≤ 2147483647) : Calls Tryd.prog 19 #[.agg #[.string n, .string v]] w (Makes (.bool true) w) := by
  have h1' : decide ((2147483647 : Int) < (n.size : Int)) = false := decide_eq_false (by omega)
  have h2' : decide ((2147483647 : Int) < (v.size : Int)) = false := decide_eq_false (by omega)
  go_enter Tryd.func19, Tryd.ntmps19
  go_wp2
  go_ret
  exact ⟨rfl, (Below.refl _ _).alloc (Nat.le_refl _) _⟩

set_option maxRecDepth 100000 in
theorem zzFits2_c (v : Value) (l : List Pr) (w : World) (hv : Prs v l w) (hl : l.length ≤ 2147483647) (hs : ∀ x ∈ l, x.n.size ≤ 2147483647 ∧ x.v.size ≤ 2147483647) : Calls Tryd.prog 10 #[v] w (Makes (.bool true) w) := by
  obtain ⟨p, c, rfl, hc1, hc2, hcells⟩ := hv
  have HS := Lib.hid hs
  clear hs
  go_enter Tryd.func10, Tryd.ntmps10
  go_wp2
  go_loopw [2, 10] (fun r i wr => ∃ (k : Nat), k ≤ l.length ∧ i = .int .i64 k ∧ Below w.heap.size w wr) (fun _ i _ => l.length - (intOf i).toNat)
  case atStart => exact ⟨0, Nat.zero_le _, rfl, Below.refl _ _⟩
  case round =>
    obtain ⟨k, hk, rfl, hbel⟩ := hrel
    by_cases hlt : k < l.length
    · obtain ⟨x, hx⟩ : ∃ x, l[k]? = some x := ⟨l[k], List.getElem?_eq_getElem hlt⟩
      have HZ := Lib.hid (HS.out x (List.mem_of_getElem? hx))
      rcases hcells with rfl | ⟨g, o, rfl, hg, hcells⟩
      · simp at hlt
      obtain ⟨h0, h1⟩ := hcells k x hx
      have a0 := (hbel.cell (p := ⟨g, o + k * 2, none⟩) hg).trans h0
      have a1 := (hbel.cell (p := ⟨g, o + k * 2 + 1, none⟩) hg).trans h1
      clear h0 h1 hcells hx
      go_wp2_with fail
      refine (zzFits3_c _ _ _ HZ.out.1 HZ.out.2).mono ?_
      rintro e w1 ⟨rfl, hb1⟩
      go_wp2_with fail
      go_roundw
      case rel => exact ⟨k + 1, by omega, by go_num, (hbel.alloc hbel.size _).trans (hb1.mono (by have := hbel.size; simp; omega))⟩
      case measure => simp [intOf]; omega
    · go_wp2_with fail
      go_ret
      exact ⟨rfl, hbel⟩
end Go.Proofs.YtglffpjobjpmpaaDoor
