/-
  CONTRACTS OF mime's encodeWord and Encode, and of impl's Encode, at a text that is not printable: what comes back are encoded words.
-/
import Derived.Test.YtdoddigmfckhmaaDoorQE
import Derived.Test.YtdoddigmfckhmaaDoorBE
import Derived.Test.YtdoddigmfckhmaaDoorStrLaws
namespace Go.Proofs.YtdoddigmfckhmaaDoor
open Go.RowKit

/-- What comes back: words. -/
def Coded (q : Bool) (cs : ByteArray) (w : World) (e : Ending) (w' : World) : Prop := ∃ (t : ByteArray) (ws : List (List UInt8)), e = .returned (.string t) ∧ Below w.heap.size w w' ∧ ws ≠ [] ∧ (∀ c ∈ ws, okC q c) ∧ t.size ≤ 1677725000 ∧ L t = joinW (ws.map (wordL (L cs) (if q then 113 else 98)))

theorem coded_of {q : Bool} {cs : ByteArray} {en : UInt8} {ds : List (List UInt8)} {d acc : List UInt8} (hen : en = if q then 113 else 98) (h1 : ∀ x ∈ ds, okC q x) (h2 : okC q d) (hacc : acc = headL (L cs) en ++ closedL (sepL (L cs) en) ds ++ d ++ [63, 61]) (hl : acc.length ≤ 1677725000) {w w' : World} (hb : Below w.heap.size w w') :
    Coded q cs w (.returned (.string ⟨acc.toArray⟩)) w' := by
  refine ⟨_, ds ++ [d], rfl, hb, by simp, ?_, ?_, ?_⟩
  · intro c hc
    rcases List.mem_append.1 hc with hc | hc
    · exact h1 c hc
    · rw [List.mem_singleton.1 hc]; exact h2
  · rw [← L_length, L_mk]; exact hl
  · rw [L_mk, hacc, words_of, hen]

set_option maxHeartbeats 2000000 in
theorem encodeWord_c (q : Bool) (en : Int) (hq : en = 98 ∧ q = false ∨ en = 113 ∧ q = true) (cs s : ByteArray) (w : World) (hc : csOk cs) (hs : s.size ≤ 16777216) (hs0 : 0 < s.size) (hT : Tabs w) :
    Calls Tryd.prog 16 #[.int .u8 en, .string cs, .string s] w (Coded q cs w) := by
  have hlt := hT.lt
  have hcs := csOk_size hc
  have HG := Lib.hid (Tryd.Builder_Grow_fresh w.heap.size w.heap.size 48 (w.alloc (.cells #[.pointer none, .slice none 0 0] 40)) (Nat.le_refl _) (heap_alloc_new w _) (by simp) (by omega))
  have HA := Lib.hid (And.intro hc (And.intro hT (And.intro hlt hcs)))
  clear hc hT hlt hcs
  rcases hq with ⟨rfl, rfl⟩ | ⟨rfl, rfl⟩
  · go_enter Tryd.func16, Tryd.ntmps16
    go_wp2_with fail
    refine HG.out.mono ?_
    rintro r w1 ⟨rfl, hb1, hbel1⟩
    have hst1 : St w.heap.size w.heap.size [] w1 w1 := St.start ⟨.inr hb1, by have := hbel1.size; simp at this; omega⟩
    have hbel : Below w.heap.size w w1 := ((Below.refl _ _).alloc (Nat.le_refl _) _).trans hbel1
    have hsz : w.heap.size < w1.heap.size := by have := hbel1.size; simp at this; omega
    have H1 := Lib.hid (And.intro hst1 (And.intro hbel hsz))
    have HO := Lib.hid (openWord_c w.heap.size w.heap.size [] 98 cs w1 w1 hst1 (by simp) (by have := HA.out.2.2.2; omega))
    clear hb1 hbel1 hst1 hbel hsz
    go_wp2_with fail
    refine HO.out.mono ?_
    rintro r w2 ⟨rfl, hst2⟩
    rw [List.nil_append] at hst2
    have H2 := Lib.hid (bEncode_c w.heap.size w.heap.size (headL (L cs) 98) cs s w1 w2 hst2 H1.out.2.2 HA.out.1 hs hs0 (HA.out.2.1.below H1.out.2.1) HA.out.2.2.1.1 HA.out.2.2.1.2 (by simp [headL, L_length, HA.out.2.2.2]))
    clear hst2
    go_wp2_with fail
    refine H2.out.mono ?_
    rintro r w3 ⟨rfl, ds, d, k1, k2, k3, hst3⟩
    have hhl : (headL (L cs) 98).length = 10 := by simp [headL, L_length, HA.out.2.2.2]
    have H3 := Lib.hid (closeWord_c w.heap.size w.heap.size _ w1 w3 hst3 (by omega))
    have HK := Lib.hid (And.intro k1 (And.intro k2 (And.intro k3 hhl)))
    clear k1 k2 k3 hhl hst3
    go_wp2_with fail
    refine H3.out.mono ?_
    rintro r w4 ⟨rfl, hst4⟩
    have H4 := Lib.hid hst4
    clear hst4
    obtain ⟨t, ht⟩ : ∃ t : ByteArray, t = ⟨(headL (L cs) 98 ++ closedL (sepL (L cs) 98) ds ++ d ++ [63, 61]).toArray⟩ := ⟨_, rfl⟩
    have h5 := string_c w.heap.size w.heap.size _ w4 H4.out.bld
    rw [← ht] at h5
    have H5 := Lib.hid h5
    have HT := Lib.hid ht
    clear h5 ht
    go_wp2_with fail
    refine H5.out.mono ?_
    rintro r w5 ⟨rfl, hb5⟩
    have HE := Lib.hid (coded_of (q := false) (cs := cs) (en := 98) (w := w) (w' := w5) rfl HK.out.1 HK.out.2.1 rfl (by have h1 := HK.out.2.2.1; have h2 := HK.out.2.2.2; simp only [List.length_append, List.length_cons, List.length_nil] at h1 ⊢; omega) ((H1.out.2.1.trans H4.out.bel).trans hb5))
    clear hb5
    go_wp2_with fail
    go_ret
    rw [← HT.out] at HE
    exact HE.out
  · go_enter Tryd.func16, Tryd.ntmps16
    go_wp2_with fail
    refine HG.out.mono ?_
    rintro r w1 ⟨rfl, hb1, hbel1⟩
    have hst1 : St w.heap.size w.heap.size [] w1 w1 := St.start ⟨.inr hb1, by have := hbel1.size; simp at this; omega⟩
    have hbel : Below w.heap.size w w1 := ((Below.refl _ _).alloc (Nat.le_refl _) _).trans hbel1
    have hsz : w.heap.size < w1.heap.size := by have := hbel1.size; simp at this; omega
    have H1 := Lib.hid (And.intro hst1 (And.intro hbel hsz))
    have HO := Lib.hid (openWord_c w.heap.size w.heap.size [] 113 cs w1 w1 hst1 (by simp) (by have := HA.out.2.2.2; omega))
    clear hb1 hbel1 hst1 hbel hsz
    go_wp2_with fail
    refine HO.out.mono ?_
    rintro r w2 ⟨rfl, hst2⟩
    rw [List.nil_append] at hst2
    have H2 := Lib.hid (qEncode_c w.heap.size w.heap.size (headL (L cs) 113) cs s w1 w2 hst2 HA.out.1 hs hs0 (HA.out.2.1.below H1.out.2.1) HA.out.2.2.1.1 HA.out.2.2.1.2 (by simp [headL, L_length, HA.out.2.2.2]))
    clear hst2
    go_wp2_with fail
    refine H2.out.mono ?_
    rintro r w3 ⟨rfl, ds, d, k1, k2, k3, hst3⟩
    have hhl : (headL (L cs) 113).length = 10 := by simp [headL, L_length, HA.out.2.2.2]
    have H3 := Lib.hid (closeWord_c w.heap.size w.heap.size _ w1 w3 hst3 (by omega))
    have HK := Lib.hid (And.intro k1 (And.intro k2 (And.intro k3 hhl)))
    clear k1 k2 k3 hhl hst3
    go_wp2_with fail
    refine H3.out.mono ?_
    rintro r w4 ⟨rfl, hst4⟩
    have H4 := Lib.hid hst4
    clear hst4
    obtain ⟨t, ht⟩ : ∃ t : ByteArray, t = ⟨(headL (L cs) 113 ++ closedL (sepL (L cs) 113) ds ++ d ++ [63, 61]).toArray⟩ := ⟨_, rfl⟩
    have h5 := string_c w.heap.size w.heap.size _ w4 H4.out.bld
    rw [← ht] at h5
    have H5 := Lib.hid h5
    have HT := Lib.hid ht
    clear h5 ht
    go_wp2_with fail
    refine H5.out.mono ?_
    rintro r w5 ⟨rfl, hb5⟩
    have HE := Lib.hid (coded_of (q := true) (cs := cs) (en := 113) (w := w) (w' := w5) rfl HK.out.1 HK.out.2.1 rfl (by have h1 := HK.out.2.2.1; have h2 := HK.out.2.2.2; simp only [List.length_append, List.length_cons, List.length_nil] at h1 ⊢; omega) ((H1.out.2.1.trans H4.out.bel).trans hb5))
    clear hb5
    go_wp2_with fail
    go_ret
    rw [← HT.out] at HE
    exact HE.out

theorem encodeQ_c (q : Bool) (en : Int) (hq : en = 98 ∧ q = false ∨ en = 113 ∧ q = true) (cs s : ByteArray) (w : World) (hc : csOk cs) (hs : s.size ≤ 16777216) (hs0 : 0 < s.size) (hT : Tabs w) (hp : allB prB (L s) = false) :
    Calls Tryd.prog 11 #[.int .u8 en, .string cs, .string s] w (Coded q cs w) := by
  have HT := Lib.hid hT
  have HC := Lib.hid hc
  have HW := Lib.hid hq
  clear hT hc hq
  go_enter Tryd.func11, Tryd.ntmps11
  go_wp2_with fail
  refine (needsEncoding_c s _).mono ?_
  rintro e w1 ⟨rfl, hb⟩
  rw [hp]
  have HE := Lib.hid (encodeWord_c q en HW.out cs s w1 HC.out hs hs0 (HT.out.below hb))
  have HB := Lib.hid hb
  clear hb
  go_wp2_with fail
  refine HE.out.mono ?_
  rintro e w2 ⟨t, ws, rfl, h1, h2⟩
  have HF := Lib.hid (show Coded q cs w (.returned (.string t)) w2 from ⟨t, ws, rfl, HB.out.trans (h1.mono HB.out.size), h2⟩)
  clear h1 h2
  go_wp2_with fail
  go_ret
  exact HF.out

theorem implEncodeQ_c (q : Bool) (cs s : ByteArray) (w : World) (hc : csOk cs) (hs : s.size ≤ 16777216) (hs0 : 0 < s.size) (hT : Tabs w) (hp : allB prB (L s) = false) :
    Calls Tryd.prog 6 #[.bool q, .string cs, .string s] w (Coded q cs w) := by
  have HB := Lib.hid (encodeQ_c false 98 (.inl ⟨rfl, rfl⟩) cs s w hc hs hs0 hT hp)
  have HQ := Lib.hid (encodeQ_c true 113 (.inr ⟨rfl, rfl⟩) cs s w hc hs hs0 hT hp)
  clear hc hT hp
  cases q
  · go_enter Tryd.func6, Tryd.ntmps6
    go_wp2_with fail
    go_in
    go_wp2_with fail
    refine HB.out.mono ?_
    rintro e w1 ⟨t, ws, rfl, h1, h2⟩
    have HF := Lib.hid (And.intro h1 h2)
    clear h1 h2
    go_wp2_with fail
    go_ret
    exact ⟨t, ws, rfl, HF.out⟩
  · go_enter Tryd.func6, Tryd.ntmps6
    go_wp2_with fail
    go_in
    go_wp2_with fail
    refine HQ.out.mono ?_
    rintro e w1 ⟨t, ws, rfl, h1, h2⟩
    have HF := Lib.hid (And.intro h1 h2)
    clear h1 h2
    go_wp2_with fail
    go_ret
    exact ⟨t, ws, rfl, HF.out⟩
end Go.Proofs.YtdoddigmfckhmaaDoor
