/-
  CONTRACTS OF encoding/base64's encoder: Write of at most 45 bytes while nothing is held back, and Close.
-/
import Derived.Test.YtdoddigmfckhmaaDoorEncr
import Derived.Deep.RegionWith
import Derived.Deep.RegionHeld3
namespace Go.Proofs.YtdoddigmfckhmaaDoor
open Go.RowKit

theorem OutAt.row {eb : Nat} {pre : List Value} {done : List UInt8} {w : World} (h : OutAt eb pre done w) : ∃ cs, w.heap[eb]? = some (.cells cs 72 (0, 0)) := by
  obtain ⟨_, tail, _, hw⟩ := h
  exact ⟨_, hw⟩
theorem byteOne : (Tryd.prog.info? 5).map (·.size) = some 1 := by kernel_rfl
theorem only_setRow (w : World) (g : Nat) (cs : Array Value) : Only g w (w.setRow g cs) := ⟨rfl, rfl, rfl, by simp, fun k _ h => setRow_other w g k cs h⟩
/-- The bytes that are left go into the encoder's small buffer. -/
theorem enc_copy (eb e b g a m c : Nat) (b0 b1 b2 : Value) (x : List UInt8) (w : World) (h : OutAt eb (preE e b b0 b1 b2 0) [] w) (hx : Lie g a x w) (hl : x.length ≤ 2) (hm : m = x.length) :
    ∃ W' c0 c1 c2, (Builtin.copy_ #[38, 38] 3 #[.slice (some ⟨eb, 3, none⟩) 3 3, .slice (some ⟨g, a, none⟩) m c]).run Tryd.prog w = .ok (.int .i64 (m : Int)) W' ∧ OutAt eb (preE e b c0 c1 c2 0) [] W' ∧ [c0, c1, c2].take x.length = Lib.byteCells x ∧ Only eb w W' := by
  obtain ⟨hp, tail, ht, hw⟩ := h
  have hmin : Nat.min m 3 = m := Nat.min_eq_left (by omega)
  have hr := run_copy_row (P := Tryd.prog) w 38 38 3 5 eb 3 3 3 ⟨g, a, none⟩ m c _ 72 (Lib.byteCells x) Tryd.underlying38 byteOne hw (by rw [hmin, bcLen, hm]) (by
    intro j u hj
    have e1 : ((⟨g, a, none⟩ : Addr).add j) = ⟨g, a + j, none⟩ := by simp only [Addr.add]; split <;> simp_all
    rw [e1]
    simp only [Lib.byteCells, List.getElem?_map, Option.map_eq_some_iff] at hj
    obtain ⟨c', hc', rfl⟩ := hj
    exact hx j c' hc') (by simp [bcLen, preE]; simp at ht; omega) (byteCells_oneCell x)
  rw [bcLen, ← hm] at hr
  match x, hl, hm with
  | [], _, hm =>
    subst hm
    exact ⟨_, b0, b1, b2, hr, ⟨rfl, tail, ht, by rw [setRow_heap _ _ _ _ _ _ hw]; simp [preE, Lib.byteCells]⟩, rfl, only_setRow _ _ _⟩
  | [d0], _, hm =>
    subst hm
    exact ⟨_, .int .u8 d0.toNat, b1, b2, hr, ⟨rfl, tail, ht, by rw [setRow_heap _ _ _ _ _ _ hw]; simp [preE, Lib.byteCells]⟩, rfl, only_setRow _ _ _⟩
  | [d0, d1], _, hm =>
    subst hm
    exact ⟨_, .int .u8 d0.toNat, .int .u8 d1.toNat, b2, hr, ⟨rfl, tail, ht, by rw [setRow_heap _ _ _ _ _ _ hw]; simp [preE, Lib.byteCells]⟩, rfl, only_setRow _ _ _⟩

/-- What the walk reads of the encoder's block. -/
theorem EncCells {eb e b n : Nat} {b0 b1 b2 : Value} {done : List UInt8} {w : World} (h : OutAt eb (preE e b b0 b1 b2 n) done w) :
    w.cell? ⟨eb, 0, none⟩ = some .nilIface ∧ w.cell? ⟨eb, 1, none⟩ = some (.pointer (some ⟨e, 0, none⟩)) ∧ w.cell? ⟨eb, 2, none⟩ = some (.iface 37 (.pointer (some ⟨b, 0, none⟩))) ∧ w.cell? ⟨eb, 6, none⟩ = some (.int .i64 (n : Int)) ∧
    w.frozen? ⟨eb, 0, none⟩ = false ∧ w.frozen? ⟨eb, 6, none⟩ = false :=
  ⟨h.pre 0 (by omega), h.pre 1 (by omega), h.pre 2 (by omega), h.pre 6 (by omega), h.frozen _, h.frozen _⟩

theorem Off.only {b d g : Nat} {w w' : World} (h : Off b g w) (ho : Only d w w') (hd : d ≠ b) (hb : b < w.heap.size) : Off b g w' :=
  ⟨Nat.lt_of_lt_of_le h.1 ho.2.2.2.1, h.2.1, fun p v T fr hbk => h.2.2 p v T fr (by rw [ho.2.2.2.2 b hb (fun e => hd e.symm)] at hbk; exact hbk)⟩
theorem Bld.lt {B b : Nat} {l : List UInt8} {w : World} (h : Bld B b l w) : b < w.heap.size := h.1.elim (fun h => h.lt) (fun h => h.lt)

/-- A block of the call's own turns: what the walk carries stands. -/
theorem enc_settle {B b eb e g a n : Nat} {b0 b1 b2 : Value} {acc x done : List UInt8} {w0 w W : World} (hst : St B b acc w0 w) (hO : OutAt eb (preE e b b0 b1 b2 n) done w) (hoff : Off b g w) (hx : Lie g a x w) (hE : EncAt e w)
    (he : e ≠ eb) (hbb : eb ≠ b) (hge : g ≠ eb) (hB : B ≤ eb) (h0 : w0.heap.size ≤ eb) (ho : Only eb w W) : St B b acc w0 W ∧ Off b g W ∧ Lie g a x W ∧ EncAt e W := by
  obtain ⟨cs, hrow⟩ := hO.row
  exact ⟨hst.only ho hbb h0 hB cs _ _ (by decide) hrow, hoff.only ho hbb hst.bld.lt, hx.of_heap (ho.2.2.2.2 g hoff.1 hge), hE.keep ho he⟩
theorem enc_err {eb e b n : Nat} {b0 b1 b2 : Value} {done : List UInt8} {w : World} (hO : OutAt eb (preE e b b0 b1 b2 n) done w) : OutAt eb (preE e b b0 b1 b2 n) done (w.setCell ⟨eb, 0, none⟩ .nilIface) := hO.setPre 0 (by omega) _
theorem enc_nbuf {eb e b n : Nat} {b0 b1 b2 : Value} {done : List UInt8} {w : World} (hO : OutAt eb (preE e b b0 b1 b2 n) done w) (m : Nat) : OutAt eb (preE e b b0 b1 b2 m) done (w.setCell ⟨eb, 6, none⟩ (.int .i64 (m : Int))) := hO.setPre 6 (by omega) _

theorem Lie.drop {g a N : Nat} {x : List UInt8} {w : World} (h : Lie g a x w) : Lie g (a + N) (x.drop N) w := fun j c hj => by
  rw [List.getElem?_drop] at hj
  have := h (N + j) c hj
  rwa [← Nat.add_assoc] at this

set_option maxHeartbeats 4000000 in
set_option maxRecDepth 100000 in
theorem encWrite_c (B b eb e g a n cap : Nat) (acc x : List UInt8) (w0 w : World) (hst : St B b acc w0 w) (hen : EncSt eb e b [] w) (hE : EncAt e w) (he : e ≠ eb) (heb : e ≠ b) (hbb : eb ≠ b) (hB : B ≤ eb) (h0 : w0.heap.size ≤ eb)
    (hoff : Off b g w) (hge : g ≠ eb) (hx : Lie g a x w) (hn1 : n ≤ x.length) (hn2 : x.length ≤ n) (hn : n ≤ 45) (hcap : n ≤ cap) (hacc : acc.length ≤ 70368744177664) :
    Calls Tryd.prog 63 #[.pointer (some ⟨eb, 0, none⟩), .slice (some ⟨g, a, none⟩) n cap] w
      (fun r w' => r = .returned (.tuple #[.int .i64 (n : Int), .nilIface]) ∧ St B b (acc ++ b64 (x.take (3 * (n / 3)))) w0 w' ∧ EncSt eb e b (x.drop (3 * (n / 3))) w' ∧ EncAt e w') := by
  obtain ⟨b0, b1, b2, hO, _⟩ := hen
  obtain ⟨c0, c1, c2, c6, f0, f6⟩ := EncCells hO
  by_cases h3 : n < 3
  · have hhs := enc_settle hst hO hoff hx hE he hbb hge hB h0 (Only.refl eb w)
    obtain ⟨w4, x0, x1, x2, hcp, hO4, htk, hon4⟩ := enc_copy eb e b g a n cap b0 b1 b2 x w hO hx (by omega) (by omega)
    obtain ⟨y0, y1, y2, y6, g0, g6⟩ := EncCells hO4
    have hh4 := enc_settle hst hO hoff hx hE he hbb hge hB h0 hon4
    have hh5 := enc_settle hh4.1 hO4 hh4.2.1 hh4.2.2.1 hh4.2.2.2 he hbb hge hB h0 ((Only.refl eb w4).setCell 6 (.int .i64 (n : Int)))
    have HK := Lib.hid (And.intro (enc_nbuf hO4 n) (And.intro hh5 htk))
    have hrl : n = x.length := by omega
    have HRL := Lib.hid hrl
    have hz : 3 * (n / 3) = 0 := by omega
    rw [hz, List.take_zero, List.drop_zero]
    have d3 : decide ((3 : Int) ≤ (n : Int)) = false := decide_eq_false (by omega)
    clear hhs hst hO hoff hx hE hO4 hh4 hh5 htk hon4 hrl hz
    go_enter Tryd.func63, Tryd.ntmps63
    go_wp2
    refine wp_loop_rounds 1 ?_
    rw [rounds_succ]
    go_wp2
    go_ret2
    exact ⟨rfl, by rw [b64, List.append_nil]; exact HK.out.2.1.1, ⟨x0, x1, x2, by rw [← HRL.out]; exact HK.out.1, HK.out.2.2⟩, HK.out.2.1.2.2.2⟩
  · have HO := Lib.hid hO
    have HS := Lib.hid (And.intro hst (And.intro hE (And.intro hoff hx)))
    clear hst hE hoff hx hO
    obtain ⟨N, hN⟩ : ∃ N, N = 3 * (n / 3) := ⟨_, rfl⟩
    have q1 : (n : Int) - (n : Int) % 3 = (N : Int) := by omega
    obtain ⟨M, hM⟩ : ∃ M, M = 4 * (n / 3) := ⟨_, rfl⟩
    obtain ⟨k3, hk3⟩ : ∃ k3, k3 = n / 3 := ⟨_, rfl⟩
    have t1 : Int.tdiv (N : Int) 3 = (k3 : Int) := by rw [Int.tdiv_eq_ediv_of_nonneg (by omega)]; omega
    have t2 : (N : Int) / 3 = (k3 : Int) := by omega
    have t5 : IntKind.i64.wrap (k3 : Int) = (k3 : Int) := by rw [IntWalk.i64_in _ (by omega)]
    have t6 : IntKind.i64.wrap (M : Int) = (M : Int) := by rw [IntWalk.i64_in _ (by omega)]
    have q9 : (M : Int) ≤ 1024 := by omega
    have q10 : (0 : Int) ≤ (M : Int) := by omega
    have t4 : (k3 : Int) * 4 = (M : Int) := by omega
    have t3 : IntKind.i64.wrap ((k3 : Int) * 4) = (M : Int) := by rw [IntWalk.i64_in _ (by omega)]; exact t4
    have q8 : M ≤ 1024 := by omega
    have q3 : N ≤ n := by omega
    have q4 : n < N + 3 := by omega
    have q5 : N ≤ cap := by omega
    have q6 : (N : Int) ≤ (cap : Int) := by omega
    have d1 : decide ((n : Int) < 768) = true := decide_eq_true (by omega)
    rw [← hN]
    have HN := Lib.hid (And.intro hN hM)
    clear hN hM hk3
    have HC1 : Hid (∀ k, Calls Tryd.prog 64 #[.pointer (some ⟨e, 0, none⟩), .slice (some ⟨eb, 7, none⟩) 1024 1024, .slice (some ⟨g, a, none⟩) N cap] (w.drewN k)
        (fun r w' => r = .returned (.tuple #[]) ∧ OutAt eb (preE e b b0 b1 b2 0) (b64 (x.take N)) w' ∧ Only eb w w')) := Lib.hid fun k => by
      refine (encode_c (w.drewN k) e eb g a N cap (preE e b b0 b1 b2 0) (x.take N) HO.out HS.out.2.1 he (fun w' done _ ho => ?_) (by rw [List.length_take]; omega) (by rw [List.length_take]; omega) (by omega) (by omega)).mono fun _ _ ⟨h1, h2, h3⟩ => ⟨h1, h2, ((Only.refl eb w).drewN k).trans h3⟩
      intro j c hj
      have hj2 : x[j]? = some c := by
        rw [List.getElem?_take] at hj
        split at hj
        · exact hj
        · cases hj
      have hgl := HS.out.2.2.1.1
      exact (HS.out.2.2.2.of_heap (w' := w') (ho.2.2.2.2 g hgl hge)) j c hj2
    go_enter Tryd.func63, Tryd.ntmps63
    go_wp2
    refine wp_loop_rounds 2 ?_
    rw [rounds_succ]
    go_wp2
    go_region_with ((refine (HC1.out _).mono ?_); rintro r w1 ⟨rfl, hO1, hon1⟩)
    obtain ⟨cs, hrow⟩ := HO.out.row
    obtain ⟨cs1, hrow1⟩ := hO1.row
    have hst1 := HS.out.1.only hon1 hbb h0 hB cs _ _ (by decide) hrow
    have hoff1 := HS.out.2.2.1.only hon1 hbb HS.out.1.bld.lt
    have hx1 := HS.out.2.2.2.of_heap (w' := w1) (hon1.2.2.2.2 g HS.out.2.2.1.1 hge)
    have hE1 := HS.out.2.1.keep hon1 he
    have HC2 : Hid (∀ k, Calls Tryd.prog 60 #[.pointer (some ⟨b, 0, none⟩), .slice (some ⟨eb, 7, none⟩) M 1024] (w1.drewN k)
        (fun r w' => r = .returned (.tuple #[.int .i64 (M : Int), .nilIface]) ∧ St B b (acc ++ b64 (x.take N)) w0 w' ∧ OutAt eb (preE e b b0 b1 b2 0) (b64 (x.take N)) w' ∧ Off b g w' ∧ Lie g a x w' ∧ EncAt e w')) := Lib.hid fun k => by
      have hl : (b64 (x.take N)).length = M := by
        rw [b64_len, List.length_take]
        have := HN.out
        omega
      refine (writeNO_c B b eb 7 M 1024 acc (b64 (x.take N)) (w1.drewN k) (hst1.bld.drewN k) hbb cs1 _ _ (by decide) hrow1 (fun j c hj => hO1.out j c hj) (by omega) (by omega)).mono ?_
      rintro r w' ⟨rfl, hb', hbel, hnb, hok⟩
      obtain ⟨hgk, hgo⟩ := hok g hoff1
      refine ⟨rfl, ⟨hb', hst1.nb.trans hnb, hst1.bel.trans ((below_drewN (Below.refl _ _) k).trans hbel)⟩, hO1.of_heap ?_, hgo, hx1.of_heap hgk, ?_⟩
      · rw [hnb eb _ _ _ hbb (by decide) hrow1, hrow1]
      · unfold EncAt at hE1 ⊢
        exact hnb e _ _ _ heb (by decide) hE1
    obtain ⟨c0, c1, c2, c6, f0, f6⟩ := EncCells hO1
    clear hst1 hoff1 hx1 hE1 hrow hrow1 hO1 hon1 HC1
    go_wp2
    go_region_with ((refine (HC2.out _).mono ?_); rintro r w2 ⟨rfl, hst2, hO2, hoff2, hx2, hE2⟩; obtain ⟨d0, d1, d2, d6, e0, e6⟩ := EncCells hO2)
    have ho3 : Only eb w2 (w2.setCell ⟨eb, 0, none⟩ .nilIface) := (Only.refl _ _).setCell _ _
    have hO3 := enc_err hO2
    have hh3 := enc_settle hst2 hO2 hoff2 hx2 hE2 he hbb hge hB h0 ho3
    obtain ⟨w3, hw3⟩ : ∃ w3, w3 = w2.setCell ⟨eb, 0, none⟩ .nilIface := ⟨_, rfl⟩
    rw [← hw3] at hO3 hh3 ⊢
    clear hw3 ho3 hst2 hO2 hoff2 hx2 hE2 d0 d1 d2 d6 e0 e6 c0 c1 c2 c6 f0 f6 HC2
    obtain ⟨c0, c1, c2, c6, f0, f6⟩ := EncCells hO3
    by_cases hcN : cap = N
    · obtain ⟨r, hr⟩ : ∃ r, r = n - N := ⟨_, rfl⟩
      obtain ⟨w4, x0, x1, x2, hcp, hO4, htk, hon4⟩ := enc_copy eb e b g a r 0 b0 b1 b2 (x.drop N) w3 hO3.fresh (by rw [List.drop_of_length_le (by omega)]; intro j c hj; cases hj) (by rw [List.length_drop]; omega) (by rw [List.length_drop]; omega)
      obtain ⟨y0, y1, y2, y6, g0, g6⟩ := EncCells hO4
      have hh4 := enc_settle hh3.1 hO3 hh3.2.1 hh3.2.2.1 hh3.2.2.2 he hbb hge hB h0 hon4
      have hh5 := enc_settle hh4.1 hO4 hh4.2.1 hh4.2.2.1 hh4.2.2.2 he hbb hge hB h0 ((Only.refl eb w4).setCell 6 (.int .i64 (r : Int)))
      have HK := Lib.hid (And.intro (enc_nbuf hO4 r) (And.intro hh5 htk))
      have hrl : r = (x.drop N).length := by rw [List.length_drop]; omega
      have HRL := Lib.hid hrl
      have r1 : (n : Int) - (N : Int) = (r : Int) := by omega
      have r2 : (N : Int) + (r : Int) = (n : Int) := by omega
      have r3 : r < 3 := by omega
      clear hO3 hh3 hO4 hh4 hh5 htk hon4 hrl
      have hr2 := hr.symm
      have r4 : cap - N = 0 := by omega
      clear hr
      go_wp2
      rw [rounds_succ]
      go_wp2
      go_ret2
      exact ⟨rfl, HK.out.2.1.1, ⟨x0, x1, x2, by rw [← HRL.out]; exact HK.out.1, HK.out.2.2⟩, HK.out.2.1.2.2.2⟩
    · obtain ⟨r, hr⟩ : ∃ r, r = n - N := ⟨_, rfl⟩
      obtain ⟨w4, x0, x1, x2, hcp, hO4, htk, hon4⟩ := enc_copy eb e b g (a + N) r (cap - N) b0 b1 b2 (x.drop N) w3 hO3.fresh hh3.2.2.1.drop (by rw [List.length_drop]; omega) (by rw [List.length_drop]; omega)
      obtain ⟨y0, y1, y2, y6, g0, g6⟩ := EncCells hO4
      have hh4 := enc_settle hh3.1 hO3 hh3.2.1 hh3.2.2.1 hh3.2.2.2 he hbb hge hB h0 hon4
      have hh5 := enc_settle hh4.1 hO4 hh4.2.1 hh4.2.2.1 hh4.2.2.2 he hbb hge hB h0 ((Only.refl eb w4).setCell 6 (.int .i64 (r : Int)))
      have HK := Lib.hid (And.intro (enc_nbuf hO4 r) (And.intro hh5 htk))
      have hrl : r = (x.drop N).length := by rw [List.length_drop]; omega
      have HRL := Lib.hid hrl
      have r1 : (n : Int) - (N : Int) = (r : Int) := by omega
      have r2 : (N : Int) + (r : Int) = (n : Int) := by omega
      have r3 : r < 3 := by omega
      clear hO3 hh3 hO4 hh4 hh5 htk hon4 hrl
      have hr2 := hr.symm
      clear hr
      go_wp2
      rw [rounds_succ]
      go_wp2
      go_ret2
      exact ⟨rfl, HK.out.2.1.1, ⟨x0, x1, x2, by rw [← HRL.out]; exact HK.out.1, HK.out.2.2⟩, HK.out.2.1.2.2.2⟩

set_option maxHeartbeats 4000000 in
set_option maxRecDepth 100000 in
theorem encClose_c (B b eb e : Nat) (acc rest : List UInt8) (w0 w : World) (hst : St B b acc w0 w) (hen : EncSt eb e b rest w) (hr : rest.length ≤ 2) (hE : EncAt e w) (he : e ≠ eb) (heb : e ≠ b) (hbb : eb ≠ b) (hB : B ≤ eb) (h0 : w0.heap.size ≤ eb)
    (hacc : acc.length ≤ 70368744177664) :
    Calls Tryd.prog 62 #[.pointer (some ⟨eb, 0, none⟩)] w (fun r w' => r = .returned .nilIface ∧ St B b (acc ++ b64 rest) w0 w' ∧ EncSt eb e b [] w' ∧ EncAt e w') := by
  obtain ⟨b0, b1, b2, hO, htk⟩ := hen
  obtain ⟨c0, c1, c2, c6, f0, f6⟩ := EncCells hO
  by_cases hz : rest = []
  · subst hz
    have HS := Lib.hid (And.intro hst (And.intro hO hE))
    clear hst hO hE htk
    go_enter Tryd.func62, Tryd.ntmps62
    go_wp2
    go_ret
    exact ⟨rfl, by rw [b64, List.append_nil]; exact HS.out.1, ⟨b0, b1, b2, HS.out.2.1, rfl⟩, HS.out.2.2⟩
  · obtain ⟨r, hrl⟩ : ∃ r, r = rest.length := ⟨_, rfl⟩
    have hr0 : 0 < rest.length := List.length_pos_iff.2 hz
    have r1 : 1 ≤ r := by omega
    have r2 : r ≤ 2 := by omega
    have r3 : (0 : Int) < (r : Int) := by omega
    have r4 : (r : Int) ≤ 3 := by omega
    have r5 : r ≤ 3 := by omega
    rw [← hrl] at hO c6 htk
    have HRL := Lib.hid hrl
    have HS := Lib.hid (And.intro hst (And.intro hO (And.intro hE htk)))
    have HC1 : Hid (∀ k, Calls Tryd.prog 64 #[.pointer (some ⟨e, 0, none⟩), .slice (some ⟨eb, 7, none⟩) 1024 1024, .slice (some ⟨eb, 3, none⟩) r 3] (w.drewN k)
        (fun r' w' => r' = .returned (.tuple #[]) ∧ OutAt eb (preE e b b0 b1 b2 r) (b64 rest) w' ∧ Only eb w w')) := Lib.hid fun k => by
      refine (encode_c (w.drewN k) e eb eb 3 r 3 (preE e b b0 b1 b2 r) rest HS.out.2.1 HS.out.2.2.1 he (fun w' done hd _ => ?_) (by omega) (by omega) (by omega) (by omega)).mono fun _ _ ⟨h1, h2, h3⟩ => ⟨h1, h2, ((Only.refl eb w).drewN k).trans h3⟩
      intro j c hj
      have hj2 : j < rest.length := (List.getElem?_eq_some_iff.1 hj).1
      have h1 : (Lib.byteCells rest)[j]? = some (.int .u8 (c.toNat : Int)) := by simp [Lib.byteCells, hj]
      rw [← htk, List.getElem?_take, if_pos (by omega)] at h1
      rw [hd.pre (3 + j) (by omega)]
      unfold preE
      rw [show 3 + j = j + 1 + 1 + 1 by omega]
      simp only [List.getElem?_cons_succ]
      rw [show [b0, b1, b2, Value.int IntKind.i64 (r : Int)] = [b0, b1, b2] ++ [Value.int IntKind.i64 (r : Int)] from rfl, List.getElem?_append_left (by simp; omega)]
      exact h1
    clear hst hO hE htk hrl hr0 hz hr
    go_enter Tryd.func62, Tryd.ntmps62
    go_wp2
    go_region_held3 (fun w' => w'.cell? ⟨eb, 1, none⟩ = some (.pointer (some ⟨e, 0, none⟩)) ∧ w'.cell? ⟨eb, 6, none⟩ = some (.int .i64 (r : Int))) (first | go_keep | exact ⟨p1, p6⟩)
      ((first | (go_at_call 64; refine (HC1.out _).mono ?_; rintro r' w1 ⟨rfl, hO1, hon1⟩; obtain ⟨p0, p1, p2, p6, pe, pn⟩ := EncCells hO1)))
    all_goals
      obtain ⟨cs, hrow⟩ := HS.out.2.1.row
      obtain ⟨cs1, hrow1⟩ := hO1.row
      have hst1 := HS.out.1.only hon1 hbb h0 hB cs _ _ (by decide) hrow
      have hE1 := HS.out.2.2.1.keep hon1 he
      have HL : Hid (∀ k, Calls Tryd.prog 32 #[.pointer (some ⟨e, 0, none⟩), .int .i64 (r : Int)] (w1.drewN k) (fun r' w' => r' = .returned (.int .i64 4) ∧ w1.drewN k = w')) := Lib.hid fun k => by
        refine (encLen_c e r (w1.drewN k) hE1 (by omega)).mono fun _ _ ⟨h1, h2⟩ => ⟨?_, h2⟩
        rw [h1, show (r + 2) / 3 * 4 = 4 by omega]
        rfl
      have HC2 : Hid (∀ k, Calls Tryd.prog 60 #[.pointer (some ⟨b, 0, none⟩), .slice (some ⟨eb, 7, none⟩) 4 1024] (w1.drewN k)
          (fun r' w' => r' = .returned (.tuple #[.int .i64 4, .nilIface]) ∧ St B b (acc ++ b64 rest) w0 w' ∧ OutAt eb (preE e b b0 b1 b2 r) (b64 rest) w' ∧ EncAt e w')) := Lib.hid fun k => by
        have hl : (b64 rest).length = 4 := by
          rw [b64_len]
          have := HRL.out
          omega
        refine (writeNO_c B b eb 7 4 1024 acc (b64 rest) (w1.drewN k) (hst1.bld.drewN k) hbb cs1 _ _ (by decide) hrow1 (fun j c hj => hO1.out j c hj) (by omega) (by omega)).mono ?_
        rintro r' w' ⟨rfl, hb', hbel, hnb, hok⟩
        refine ⟨rfl, ⟨hb', hst1.nb.trans hnb, hst1.bel.trans ((below_drewN (Below.refl _ _) k).trans hbel)⟩, hO1.of_heap ?_, ?_⟩
        · rw [hnb eb _ _ _ hbb (by decide) hrow1, hrow1]
        · unfold EncAt at hE1 ⊢
          exact hnb e _ _ _ heb (by decide) hE1
      obtain ⟨c0, c1, c2, c6, f0, f6⟩ := EncCells hO1
      clear hst1 hE1 hrow hrow1 hO1 hon1 HC1
      go_wp2
      go_region_held3 (fun w' => w'.cell? ⟨eb, 1, none⟩ = some (.pointer (some ⟨e, 0, none⟩)) ∧ w'.cell? ⟨eb, 2, none⟩ = some (.iface 37 (.pointer (some ⟨b, 0, none⟩))) ∧ w'.cell? ⟨eb, 6, none⟩ = some (.int .i64 (r : Int))) (first | go_keep | exact ⟨d1, d2, d6⟩ | exact ⟨l1, l2, l6⟩)
        ((first | (go_at_call 32; refine (HL.out _).mono ?_; rintro r' w' ⟨rfl, rfl⟩) | (go_at_call 60; refine (HC2.out _).mono ?_; rintro r' w2 ⟨rfl, hst2, hO2, hE2⟩; obtain ⟨d0, d1, d2, d6, e0, e6⟩ := EncCells hO2; obtain ⟨l0, l1, l2, l6, m0, m6⟩ := EncCells (enc_err hO2))))
      all_goals
        have ho3 : Only eb w2 (w2.setCell ⟨eb, 0, none⟩ .nilIface) := (Only.refl _ _).setCell _ _
        have hO3 := enc_err hO2
        obtain ⟨cs2, hrow2⟩ := hO2.row
        have hst3 := hst2.only ho3 hbb h0 hB cs2 _ _ (by decide) hrow2
        have hE3 := hE2.keep ho3 he
        clear l0 l1 l2 l6 m0 m6
        obtain ⟨w3, hw3⟩ : ∃ w3, w3 = w2.setCell ⟨eb, 0, none⟩ .nilIface := ⟨_, rfl⟩
        rw [← hw3] at hO3 hst3 hE3 ⊢
        obtain ⟨x0, x1, x2, x6, g0, g6⟩ := EncCells hO3
        have ho4 : Only eb w3 (w3.setCell ⟨eb, 6, none⟩ (.int .i64 0)) := (Only.refl _ _).setCell _ _
        have hO4 : OutAt eb (preE e b b0 b1 b2 0) (b64 rest) (w3.setCell ⟨eb, 6, none⟩ (.int .i64 0)) := enc_nbuf hO3 0
        obtain ⟨cs3, hrow3⟩ := hO3.row
        have hst4 := hst3.only ho4 hbb h0 hB cs3 _ _ (by decide) hrow3
        have hE4 := hE3.keep ho4 he
        obtain ⟨y0, y1, y2, y6, k0, k6⟩ := EncCells hO4
        have HK := Lib.hid (And.intro hst4 (And.intro hO4 hE4))
        clear hw3 ho3 hst2 hO2 hE2 hrow2 hst3 hE3 hO3 ho4 hO4 hrow3 hst4 hE4 HC2 HL d0 d1 d2 d6 e0 e6
        go_wp2
        go_ret
        exact ⟨rfl, HK.out.1, ⟨b0, b1, b2, HK.out.2.1.fresh, rfl⟩, HK.out.2.2⟩
end Go.Proofs.YtdoddigmfckhmaaDoor
