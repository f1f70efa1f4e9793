/-
  DERIVED: THE SHELF's CONTRACTS AT THIS DUMP, IN PLAIN WORDS (tools/lay-plain.mjs out of 'TrydIterLay.lean', which tools/lay-shelf.mjs wrote): THE SAME DECLARATIONS UNDER THE SAME NAMES: 'import', 'namespace', 'open', 'def', 'theorem' AND NOTHING ELSE: no command of the shelf's: FOR A HAND-IN. Each laying: the table of numbers ('.._ren') and one theorem, a field a fact of the dump's own or the kernel's comparison; each contract: ONE APPLICATION.
-/
import Derived.Shelf.SlIter.Nil
import Derived.Shelf.SortM.Plain
import Derived.Shelf.SortM.SortNone
import Derived.Ground.GgzProg
import Derived.Ground.SlgmProg
import Derived.Shelf.SlGeneric
import Derived.Test.YtglffpjobjpmpaaDoorProg
namespace Go.Proofs
open Go.RowKit Go.Maps Go.Sort Go.Shelf
def Tryd.keys34_ren : Go.Shelf.Ren := ⟨fun | 7 => 34 | 10 => 48 | n => n, fun | 23 => 37 | 26 => 9 | 3 => 9 | 28 => 54 | 0 => 0 | 27 => 53 | 33 => 22 | 4 => 4 | n => n, fun | n => n⟩
theorem Tryd.keys34 : Go.Proofs.SlLaysZ.n7 Tryd.prog Tryd.keys34_ren := {
  mixed := by kernel_rfl
  f7 := ⟨Tryd.f34.name, by decide, Tryd.func34.trans (congrArg some (by kernel_rfl))⟩
  f10 := ⟨Tryd.f48.name, by decide, Tryd.func48.trans (congrArg some (by kernel_rfl))⟩
  t0 := Tryd.underlying0
  a0 := Tryd.isAgg0
  z0 := Tryd.sizeOf0
  v0 := Tryd.zeroValue0
  t4 := Tryd.underlying4
  a4 := Tryd.isAgg4
  z4 := Tryd.sizeOf4
  v4 := Tryd.zeroValue4
  t23 := Tryd.underlying37
  a23 := Tryd.isAgg37
  z23 := Tryd.sizeOf37
  v23 := Tryd.zeroValue37
  t26 := Tryd.underlying9
  a26 := Tryd.isAgg9
  z26 := Tryd.sizeOf9
  v26 := Tryd.zeroValue9
  t27 := Tryd.underlying53
  a27 := Tryd.isAgg53
  z27 := Tryd.sizeOf53
  v27 := Tryd.zeroValue53
  t28 := Tryd.underlying54
  a28 := Tryd.isAgg54
  z28 := Tryd.sizeOf54
  v28 := Tryd.zeroValue54
  t33 := Tryd.underlying22
  a33 := Tryd.isAgg22
  z33 := Tryd.sizeOf22
  v33 := Tryd.zeroValue22 }
def Tryd.sorted33_ren : Go.Shelf.Ren := ⟨fun | 6 => 33 | 8 => 46 | 9 => 47 | 11 => 60 | 13 => 62 | 12 => 61 | 23 => 77 | 24 => 78 | 14 => 68 | 15 => 69 | 16 => 70 | 17 => 71 | 18 => 72 | 19 => 73 | 20 => 74 | 21 => 75 | 22 => 76 | 25 => 83 | 26 => 84 | 27 => 85 | 28 => 86 | 29 => 87 | 30 => 88 | 31 => 89 | n => n, fun | 26 => 9 | 28 => 54 | 24 => 51 | 0 => 0 | 3 => 3 | 37 => 56 | 48 => 95 | 50 => 64 | 4 => 4 | 40 => 87 | 39 => 86 | 45 => 92 | 5 => 5 | 9 => 9 | 51 => 105 | 55 => 109 | 57 => 115 | 58 => 116 | 33 => 22 | n => n, fun | n => n⟩
theorem Tryd.sorted33 : Go.Proofs.SlLaysZ.n6 Tryd.prog Tryd.sorted33_ren := {
  mixed := by kernel_rfl
  f6 := ⟨Tryd.f33.name, by decide, Tryd.func33.trans (congrArg some (by kernel_rfl))⟩
  f8 := ⟨Tryd.f46.name, by decide, Tryd.func46.trans (congrArg some (by kernel_rfl))⟩
  f11 := ⟨Tryd.f60.name, by decide, Tryd.func60.trans (congrArg some (by kernel_rfl))⟩
  t0 := Tryd.underlying0
  a0 := Tryd.isAgg0
  z0 := Tryd.sizeOf0
  v0 := Tryd.zeroValue0
  t24 := Tryd.underlying51
  a24 := Tryd.isAgg51
  z24 := Tryd.sizeOf51
  v24 := Tryd.zeroValue51
  t26 := Tryd.underlying9
  a26 := Tryd.isAgg9
  z26 := Tryd.sizeOf9
  v26 := Tryd.zeroValue9
  t28 := Tryd.underlying54
  a28 := Tryd.isAgg54
  z28 := Tryd.sizeOf54
  v28 := Tryd.zeroValue54
  i26 := by kernel_rfl }
def Tryd.sort47_ren : Go.Shelf.Ren := ⟨fun | 6 => 47 | 8 => 62 | 9 => 61 | 19 => 77 | 20 => 78 | 21 => 68 | 22 => 69 | 23 => 70 | 24 => 71 | 25 => 72 | 26 => 73 | 27 => 74 | 28 => 75 | 29 => 76 | 36 => 83 | 31 => 84 | 32 => 85 | 37 => 86 | 38 => 87 | 39 => 88 | 41 => 89 | n => n, fun | 27 => 51 | 29 => 9 | 3 => 3 | 32 => 56 | 26 => 51 | 0 => 0 | 44 => 95 | 46 => 64 | 4 => 4 | 36 => 87 | 35 => 86 | 41 => 92 | 5 => 5 | 9 => 9 | 53 => 105 | 57 => 109 | 63 => 115 | 64 => 116 | n => n, fun | n => n⟩
theorem Tryd.sort47 : Go.Proofs.SlLaysM.n6 Tryd.prog Tryd.sort47_ren := {
  mixed := by kernel_rfl
  f6 := ⟨Tryd.f47.name, by decide, Tryd.func47.trans (congrArg some (by kernel_rfl))⟩
  f8 := Tryd.func62.trans (congrArg some (by kernel_rfl))
  f9 := ⟨Tryd.f61.name, by decide, Tryd.func61.trans (congrArg some (by kernel_rfl))⟩
  f19 := Tryd.func77.trans (congrArg some (by kernel_rfl))
  f20 := Tryd.func78.trans (congrArg some (by kernel_rfl))
  f21 := ⟨Tryd.f68.name, by decide, Tryd.func68.trans (congrArg some (by kernel_rfl))⟩
  f22 := ⟨Tryd.f69.name, by decide, Tryd.func69.trans (congrArg some (by kernel_rfl))⟩
  f23 := ⟨Tryd.f70.name, by decide, Tryd.func70.trans (congrArg some (by kernel_rfl))⟩
  f24 := ⟨Tryd.f71.name, by decide, Tryd.func71.trans (congrArg some (by kernel_rfl))⟩
  f25 := ⟨Tryd.f72.name, by decide, Tryd.func72.trans (congrArg some (by kernel_rfl))⟩
  f26 := ⟨Tryd.f73.name, by decide, Tryd.func73.trans (congrArg some (by kernel_rfl))⟩
  f27 := ⟨Tryd.f74.name, by decide, Tryd.func74.trans (congrArg some (by kernel_rfl))⟩
  f28 := ⟨Tryd.f75.name, by decide, Tryd.func75.trans (congrArg some (by kernel_rfl))⟩
  f29 := ⟨Tryd.f76.name, by decide, Tryd.func76.trans (congrArg some (by kernel_rfl))⟩
  f31 := Tryd.func84.trans (congrArg some (by kernel_rfl))
  f32 := Tryd.func85.trans (congrArg some (by kernel_rfl))
  f36 := ⟨Tryd.f83.name, by decide, Tryd.func83.trans (congrArg some (by kernel_rfl))⟩
  f37 := ⟨Tryd.f86.name, by decide, Tryd.func86.trans (congrArg some (by kernel_rfl))⟩
  f38 := ⟨Tryd.f87.name, by decide, Tryd.func87.trans (congrArg some (by kernel_rfl))⟩
  f39 := ⟨Tryd.f88.name, by decide, Tryd.func88.trans (congrArg some (by kernel_rfl))⟩
  f41 := ⟨Tryd.f89.name, by decide, Tryd.func89.trans (congrArg some (by kernel_rfl))⟩
  t0 := Tryd.underlying0
  a0 := Tryd.isAgg0
  z0 := Tryd.sizeOf0
  v0 := Tryd.zeroValue0
  t3 := Tryd.underlying3
  a3 := Tryd.isAgg3
  z3 := Tryd.sizeOf3
  v3 := Tryd.zeroValue3
  t4 := Tryd.underlying4
  a4 := Tryd.isAgg4
  z4 := Tryd.sizeOf4
  v4 := Tryd.zeroValue4
  t5 := Tryd.underlying5
  a5 := Tryd.isAgg5
  z5 := Tryd.sizeOf5
  v5 := Tryd.zeroValue5
  t9 := Tryd.underlying9
  a9 := Tryd.isAgg9
  z9 := Tryd.sizeOf9
  v9 := Tryd.zeroValue9
  t26 := Tryd.underlying51
  a26 := Tryd.isAgg51
  z26 := Tryd.sizeOf51
  v26 := Tryd.zeroValue51
  t27 := Tryd.underlying51
  a27 := Tryd.isAgg51
  z27 := Tryd.sizeOf51
  v27 := Tryd.zeroValue51
  t29 := Tryd.underlying9
  a29 := Tryd.isAgg9
  z29 := Tryd.sizeOf9
  v29 := Tryd.zeroValue9
  t32 := Tryd.underlying56
  a32 := Tryd.isAgg56
  z32 := Tryd.sizeOf56
  v32 := Tryd.zeroValue56
  t35 := Tryd.underlying86
  a35 := Tryd.isAgg86
  z35 := Tryd.sizeOf86
  v35 := Tryd.zeroValue86
  t36 := Tryd.underlying87
  a36 := Tryd.isAgg87
  z36 := Tryd.sizeOf87
  v36 := Tryd.zeroValue87
  t41 := Tryd.underlying92
  a41 := Tryd.isAgg92
  z41 := Tryd.sizeOf92
  v41 := Tryd.zeroValue92
  t44 := Tryd.underlying95
  a44 := Tryd.isAgg95
  z44 := Tryd.sizeOf95
  v44 := Tryd.zeroValue95
  t46 := Tryd.underlying64
  a46 := Tryd.isAgg64
  z46 := Tryd.sizeOf64
  v46 := Tryd.zeroValue64
  t53 := Tryd.underlying105
  a53 := Tryd.isAgg105
  z53 := Tryd.sizeOf105
  v53 := Tryd.zeroValue105
  t57 := Tryd.underlying109
  a57 := Tryd.isAgg109
  z57 := Tryd.sizeOf109
  v57 := Tryd.zeroValue109
  t63 := Tryd.underlying115
  a63 := Tryd.isAgg115
  z63 := Tryd.sizeOf115
  v63 := Tryd.zeroValue115
  t64 := Tryd.underlying116
  a64 := Tryd.isAgg116
  z64 := Tryd.sizeOf116
  v64 := Tryd.zeroValue116 }
/-- slices.Sort's two contracts at this dump, at the fence that asks nothing. -/
theorem Tryd.sorts33 (m : Nat) : AnyZ.SortsIn Tryd.prog Tryd.sorted33_ren Fence.wide m :=
  ⟨fun blk off cap ss W hH hblk hsz => callsIn_wide.2 (AnyM.slices_Sort_string Tryd.sort47 blk off cap ss W hH hblk hsz),
   fun p cap W => callsIn_wide.2 (AnyM.slices_Sort_string_none Tryd.sort47 p cap W)⟩

/-- **maps.Keys[map[string]string,string,string], at whatever map, the nil one too:** a function value over ONE NEW BLOCK, which holds the map. -/
theorem Tryd.maps_Keys_34 (mb : Option Nat) (W : World) : CallsIn Fence.wide 5 Tryd.prog 34 #[.map mb] W fun e w' => e = .returned (.func (.func 48) #[] #[.pointer (some ⟨W.heap.size, 0, none⟩)]) ∧ w' = W.alloc (.cells #[.map mb] 37) :=
  AnyZ.keys_in Tryd.keys34 Fence.wide 5 trivial rfl mb W

set_option maxHeartbeats 1000000 in
/-- **slices.Sorted[string] AT WHAT maps.Keys[map[string]string,string,string] HANDED BACK FOR A MAP THAT IS NOT nil** ('w': the world AHEAD of maps.Keys' call): A NEW SLICE THAT HOLDS THE MAP's KEYS, SORTED; nil just where it has none; nothing that lay before has turned. -/
theorem Tryd.slices_Sorted_keys_33_34 {H : Type} (b nn : Nat) (D0 : DataW H) (R : Value → Option (DataW H × List MemPlace)) (w : World) (hown : w.ownsMap Tryd.prog 9 R b nn D0) (hmax : Maps.size D0 ≤ maxLen) (hbytes : Maps.size D0 * 16 ≤ 140737488355328) :
    CallsIn Fence.wide 5 Tryd.prog 33 #[.func (.func 48) #[] #[.pointer (some ⟨w.heap.size, 0, none⟩)]] (w.alloc (.cells #[.map (some b)] 37)) fun e w' => ∃ (v : Value) (ss : List (List UInt8)), e = .returned v ∧ ss.Perm (strKeys D0) ∧
      w'.ownsRow (w.alloc (.cells #[.map (some b)] 37)).heap.size 9 1 v ss.length ((ss.mergeSort (fun x y => decide (x ≤ y))).map encStr) ∧ (v = .slice none 0 0 ↔ ss = []) ∧ Below (w.alloc (.cells #[.map (some b)] 37)).heap.size (w.alloc (.cells #[.map (some b)] 37)) w' := by
  have hbl := hown.lt
  have hseq : SeqGives Fence.wide 2 Tryd.prog 48 #[.pointer (some ⟨w.heap.size, 0, none⟩)] encStr (fun ss => ss.Perm (strKeys D0)) (Maps.size D0) (w.alloc (.cells #[.map (some b)] 37)) :=
    AnyZ.keys_gives (ρ := Tryd.keys34_ren) { Tryd.keys34 with } Fence.wide _ trivial rfl (by omega) w.heap.size b nn D0 _ (by simp) (by simp) (by
      obtain ⟨es, clock, hb, Ft, hs, hD⟩ := hown
      exact ⟨es, clock, (Below.heap_alloc _ _ b hbl).trans hb, Ft, hs, hD⟩)
  exact AnyZ.sorted_in Tryd.sorted33 Fence.wide 5 trivial trivial trivial trivial rfl (by omega) (Tryd.sorts33 _) (enters_of Tryd.func47 (by kernel_rfl) rfl) 48 #[.pointer (some ⟨w.heap.size, 0, none⟩)] trivial (enters_of Tryd.func48 (by kernel_rfl) rfl) _ _ hmax hbytes _ hseq

set_option maxHeartbeats 1000000 in
/-- **.. AND FOR THE nil MAP: nil.** -/
theorem Tryd.slices_Sorted_keys_nil_33_34 (w : World) :
    CallsIn Fence.wide 5 Tryd.prog 33 #[.func (.func 48) #[] #[.pointer (some ⟨w.heap.size, 0, none⟩)]] (w.alloc (.cells #[.map none] 37)) fun e w' => ∃ (v : Value) (ss : List (List UInt8)), e = .returned v ∧ ss = [] ∧
      w'.ownsRow (w.alloc (.cells #[.map none] 37)).heap.size 9 1 v ss.length ((ss.mergeSort (fun x y => decide (x ≤ y))).map encStr) ∧ (v = .slice none 0 0 ↔ ss = []) ∧ Below (w.alloc (.cells #[.map none] 37)).heap.size (w.alloc (.cells #[.map none] 37)) w' := by
  have hseq : SeqGives Fence.wide 2 Tryd.prog 48 #[.pointer (some ⟨w.heap.size, 0, none⟩)] encStr (fun ss : List (List UInt8) => ss = []) 0 (w.alloc (.cells #[.map none] 37)) :=
    AnyZ.keys_gives_nil (ρ := Tryd.keys34_ren) { Tryd.keys34 with } Fence.wide _ trivial rfl w.heap.size _ (by simp) (by simp)
  exact AnyZ.sorted_in Tryd.sorted33 Fence.wide 5 trivial trivial trivial trivial rfl (by omega) (Tryd.sorts33 _) (enters_of Tryd.func47 (by kernel_rfl) rfl) 48 #[.pointer (some ⟨w.heap.size, 0, none⟩)] trivial (enters_of Tryd.func48 (by kernel_rfl) rfl) _ 0 (Nat.zero_le _) (by omega) _ hseq

end Go.Proofs
