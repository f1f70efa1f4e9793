/-
  DERIVED: THE SHELF's CONTRACTS AT THIS DUMP, IN PLAIN WORDS (tools/lay-plain.mjs out of 'TrydShelf.lean', which tools/lay-shelf.mjs wrote): THE SAME DECLARATIONS UNDER THE SAME NAMES: 'import', 'namespace', 'open', 'def', 'theorem' AND NOTHING ELSE: no command of the shelf's: FOR A HAND-IN. Each laying: the table of numbers ('.._ren') and one theorem, a field a fact of the dump's own or the kernel's comparison; each contract: ONE APPLICATION.
-/
import Derived.Shelf.Strings.Builder1
import Derived.Shelf.Strings.Builder2
import Derived.Shelf.Strings.OnBuilder
import Derived.Shelf.Strings.TrimSpace
import Derived.Shelf.Small.Utf8
import Derived.Shelf.Small.Bits
import Derived.Shelf.Small.Wraps
import Derived.Shelf.Strings.BuilderF
import Derived.Shelf.Strings.BuilderK
import Derived.Shelf.Strings.BuilderRune
import Derived.Shelf.Utf8.AppendRune
import Derived.Shelf.Utf8.AppendRunePlain
import Derived.Shelf.Strings.Builder2Cap
import Derived.Shelf.Strconv.Itoa0
import Derived.Shelf.Strconv.Itoa1
import Derived.Shelf.LaysM
import Derived.Shelf.Strconv.Itoa2
import Derived.Shelf.Strconv.Itoa3
import Derived.Shelf.Strings.Prefix
import Derived.Shelf.Unicode.Latin
import Derived.Shelf.Unicode.Decode
import Derived.Shelf.Unicode.DecodeSlow
import Derived.Shelf.Unicode.DecodeAny
import Derived.Shelf.Unicode.Is16White
import Derived.Shelf.Unicode.IsSpaceAny
import Derived.Shelf.Unicode.DecodeLast
import Derived.Shelf.Strings.TrimSpaceAny
import Derived.Shelf.Unicode.CaseLookup
import Derived.Shelf.Unicode.CaseConvert
import Derived.Shelf.Unicode.CaseTo
import Derived.Shelf.Unicode.CaseLaid
import Derived.Shelf.Unicode.Is16Any
import Derived.Shelf.Unicode.Is32Any
import Derived.Shelf.Unicode.ExclAny
import Derived.Shelf.Strings.BuilderCap
import Derived.Test.YteohjnebbndcoaaDoorProg
namespace Go.Proofs
open Go.Shelf
def Tryd.lays169_ren : Go.Shelf.Ren := ⟨fun | 169 => 35 | n => n, fun | 70 => 57 | 9 => 9 | 0 => 0 | 72 => 59 | 37 => 38 | 127 => 82 | 3 => 3 | 5 => 5 | n => n, fun | n => n⟩
theorem Tryd.lays169 : Go.Proofs.Lays.n169 Tryd.prog Tryd.lays169_ren := {
  mixed := by kernel_rfl
  f169 := Tryd.func35.trans (congrArg some (by kernel_rfl))
  t0 := Tryd.underlying0
  a0 := Tryd.isAgg0
  z0 := Tryd.sizeOf0
  v0 := Tryd.zeroValue0
  t3 := Tryd.underlying3
  a3 := Tryd.isAgg3
  z3 := Tryd.sizeOf3
  v3 := Tryd.zeroValue3
  t9 := Tryd.underlying9
  a9 := Tryd.isAgg9
  z9 := Tryd.sizeOf9
  v9 := Tryd.zeroValue9
  t37 := Tryd.underlying38
  a37 := Tryd.isAgg38
  z37 := Tryd.sizeOf38
  v37 := Tryd.zeroValue38
  t70 := Tryd.underlying57
  a70 := Tryd.isAgg57
  z70 := Tryd.sizeOf57
  v70 := Tryd.zeroValue57
  t72 := Tryd.underlying59
  a72 := Tryd.isAgg59
  z72 := Tryd.sizeOf59
  v72 := Tryd.zeroValue59
  t127 := Tryd.underlying82
  a127 := Tryd.isAgg82
  z127 := Tryd.sizeOf82
  v127 := Tryd.zeroValue82 }
theorem Tryd.Builder_Extra_169 : Builder.Extra Tryd.prog Tryd.lays169_ren := {
  sizeBuilder := by kernel_rfl
  liesBuilder := by kernel_rfl
  t5 := Tryd.underlying5
  a5 := Tryd.isAgg5
  z5 := Tryd.sizeOf5
  v5 := Tryd.zeroValue5
  infoByte := by kernel_rfl
  cellsByte := by kernel_rfl
  sizeByte := by kernel_rfl
  neB5 := by decide }
open Go.RowKit in
/-- (*strings.Builder).String: "String returns the accumulated string.": OF A BUILDER THAT HOLDS AT LEAST ONE BYTE. ✋ THE MODEL FREEZES THOSE BYTES IN THE BUFFER (unsafe.String): a later write INTO them ends the model's run without an answer; a later append BEHIND them goes on. The statement's order of evaluation is drawn: one draw. (LAID: no walk: one application.) -/
theorem Tryd.Builder_String (B b : Nat) (l : List UInt8) (w : World) (h : Lib.IsBuilder 59 5 B b (Lib.byteCells l) w) (h0 : l ≠ []) :
    Calls Tryd.prog 35 #[.pointer (some ⟨b, 0, none⟩)] w fun e w' => e = .returned (.string ⟨l.toArray⟩) ∧ Below B w w' := Any.Builder_String Tryd.lays169 Tryd.Builder_Extra_169 B b l w h h0
open Go.RowKit in
/-- (*strings.Builder).String OF A BUILDER THAT HOLDS NO BYTE: the empty string. (Its buffer is nil, or a row of which it has taken nothing yet; where that row has NO capacity the model lays one new block for unsafe.SliceData's 'some address'.) One draw. (LAID: no walk: one application.) -/
theorem Tryd.Builder_String_empty (B b : Nat) (w : World) (h : Lib.IsBuilder 59 5 B b [] w) (hBw : B ≤ w.heap.size) :
    Calls Tryd.prog 35 #[.pointer (some ⟨b, 0, none⟩)] w fun e w' => e = .returned (.string ⟨#[]⟩) ∧ Below B w w' := Any.Builder_String_empty Tryd.lays169 Tryd.Builder_Extra_169 B b w h hBw
open Go.RowKit in
/-- (*strings.Builder).String: "String returns the accumulated string.": WHATEVER THE BUILDER HOLDS. (LAID: no walk: one application.) -/
theorem Tryd.Builder_String_any (B b : Nat) (l : List UInt8) (w : World) (h : Lib.IsBuilder 59 5 B b (Lib.byteCells l) w) (hBw : B ≤ w.heap.size) :
    Calls Tryd.prog 35 #[.pointer (some ⟨b, 0, none⟩)] w fun e w' => e = .returned (.string ⟨l.toArray⟩) ∧ Below B w w' := Any.Builder_String_any Tryd.lays169 Tryd.Builder_Extra_169 B b l w h hBw
def Tryd.lays241_ren : Go.Shelf.Ren := ⟨fun | 241 => 69 | 277 => 86 | n => n, fun | 70 => 57 | 3 => 3 | 0 => 0 | 72 => 59 | 37 => 38 | 5 => 5 | n => n, fun | n => n⟩
theorem Tryd.lays241 : Go.Proofs.Lays.n241 Tryd.prog Tryd.lays241_ren := {
  mixed := by kernel_rfl
  f241 := Tryd.func69.trans (congrArg some (by kernel_rfl))
  f277 := Tryd.func86.trans (congrArg some (by kernel_rfl))
  t0 := Tryd.underlying0
  a0 := Tryd.isAgg0
  z0 := Tryd.sizeOf0
  v0 := Tryd.zeroValue0
  t3 := Tryd.underlying3
  a3 := Tryd.isAgg3
  z3 := Tryd.sizeOf3
  v3 := Tryd.zeroValue3
  t37 := Tryd.underlying38
  a37 := Tryd.isAgg38
  z37 := Tryd.sizeOf38
  v37 := Tryd.zeroValue38
  t70 := Tryd.underlying57
  a70 := Tryd.isAgg57
  z70 := Tryd.sizeOf57
  v70 := Tryd.zeroValue57
  t72 := Tryd.underlying59
  a72 := Tryd.isAgg59
  z72 := Tryd.sizeOf59
  v72 := Tryd.zeroValue59 }
theorem Tryd.Builder_Extra_241 : Builder.Extra Tryd.prog Tryd.lays241_ren := {
  sizeBuilder := by kernel_rfl
  liesBuilder := by kernel_rfl
  t5 := Tryd.underlying5
  a5 := Tryd.isAgg5
  z5 := Tryd.sizeOf5
  v5 := Tryd.zeroValue5
  infoByte := by kernel_rfl
  cellsByte := by kernel_rfl
  sizeByte := by kernel_rfl
  neB5 := by decide }
open Go.RowKit in
/-- (*strings.Builder).grow (no doc but "grow copies the buffer to a new, larger buffer so that there are at least n bytes of capacity beyond len(b.buf)."): AT A BUILDER WITHOUT A BUFFER: a new row of whatever bytes for its buffer, none of them its own yet. Three draws. (LAID: no walk: one application.) -/
theorem Tryd.Builder_grow_fresh (B b n : Nat) (w : World) (hB : B ≤ b) (hbk : w.heap[b]? = some (.cells #[.pointer (some ⟨b, 0, none⟩), .slice none 0 0] 59 (0, 0))) (hBw : B ≤ w.heap.size) (hn : n ≤ 281474976710656) :
    Calls Tryd.prog 69 #[.pointer (some ⟨b, 0, none⟩), .int .i64 n] w fun e w' => e = .returned (.tuple #[]) ∧ (Lib.BuilderAt 59 5 B b (.pointer (some ⟨b, 0, none⟩)) [] w' ∧ Below B w w') := Any.Builder_grow_fresh Tryd.lays241 Tryd.Builder_Extra_241 B b n w hB hbk hBw hn
def Tryd.lays165_ren : Go.Shelf.Ren := ⟨fun | 165 => 44 | 240 => 51 | 241 => 69 | 276 => 77 | 277 => 86 | n => n, fun | 70 => 57 | 3 => 3 | 0 => 0 | 4 => 4 | 9 => 9 | 20 => 20 | 72 => 59 | 37 => 38 | 164 => 112 | 5 => 5 | n => n, fun | n => n⟩
theorem Tryd.lays165 : Go.Proofs.Lays.n165 Tryd.prog Tryd.lays165_ren := {
  mixed := by kernel_rfl
  f165 := Tryd.func44.trans (congrArg some (by kernel_rfl))
  f240 := Tryd.func51.trans (congrArg some (by kernel_rfl))
  f241 := Tryd.func69.trans (congrArg some (by kernel_rfl))
  f276 := Tryd.func77.trans (congrArg some (by kernel_rfl))
  f277 := Tryd.func86.trans (congrArg some (by kernel_rfl))
  t0 := Tryd.underlying0
  a0 := Tryd.isAgg0
  z0 := Tryd.sizeOf0
  v0 := Tryd.zeroValue0
  t3 := Tryd.underlying3
  a3 := Tryd.isAgg3
  z3 := Tryd.sizeOf3
  v3 := Tryd.zeroValue3
  t4 := Tryd.underlying4
  a4 := Tryd.isAgg4
  z4 := Tryd.sizeOf4
  v4 := Tryd.zeroValue4
  t9 := Tryd.underlying9
  a9 := Tryd.isAgg9
  z9 := Tryd.sizeOf9
  v9 := Tryd.zeroValue9
  t20 := Tryd.underlying20
  a20 := Tryd.isAgg20
  z20 := Tryd.sizeOf20
  v20 := Tryd.zeroValue20
  t37 := Tryd.underlying38
  a37 := Tryd.isAgg38
  z37 := Tryd.sizeOf38
  v37 := Tryd.zeroValue38
  t70 := Tryd.underlying57
  a70 := Tryd.isAgg57
  z70 := Tryd.sizeOf57
  v70 := Tryd.zeroValue57
  t72 := Tryd.underlying59
  a72 := Tryd.isAgg59
  z72 := Tryd.sizeOf59
  v72 := Tryd.zeroValue59
  t164 := Tryd.underlying112
  a164 := Tryd.isAgg112
  z164 := Tryd.sizeOf112
  v164 := Tryd.zeroValue112 }
theorem Tryd.Builder_Extra_165 : Builder.Extra Tryd.prog Tryd.lays165_ren := {
  sizeBuilder := by kernel_rfl
  liesBuilder := by kernel_rfl
  t5 := Tryd.underlying5
  a5 := Tryd.isAgg5
  z5 := Tryd.sizeOf5
  v5 := Tryd.zeroValue5
  infoByte := by kernel_rfl
  cellsByte := by kernel_rfl
  sizeByte := by kernel_rfl
  neB5 := by decide }
open Go.RowKit in
/-- (*strings.Builder).Grow AT A BUILDER THAT HAS NOT BEEN WRITTEN ('var b strings.Builder; b.Grow(n)'): "Grow grows b's capacity, if necessary, to guarantee space for another n bytes.": it holds no byte behind it as before it. (LAID: no walk: one application.) -/
theorem Tryd.Builder_Grow_fresh (B b n : Nat) (w : World) (hB : B ≤ b) (hbk : w.heap[b]? = some (.cells #[.pointer none, .slice none 0 0] 59 (0, 0))) (hBw : B ≤ w.heap.size) (hn : n ≤ 281474976710656) :
    Calls Tryd.prog 44 #[.pointer (some ⟨b, 0, none⟩), .int .i64 n] w fun e w' => e = .returned (.tuple #[]) ∧ (Lib.BuilderAt 59 5 B b (.pointer (some ⟨b, 0, none⟩)) [] w' ∧ Below B w w') := Any.Builder_Grow_fresh Tryd.lays165 Tryd.Builder_Extra_165 B b n w hB hbk hBw hn
def Tryd.lays159_ren : Go.Shelf.Ren := ⟨fun | 159 => 26 | 165 => 44 | 166 => 33 | 167 => 45 | 169 => 35 | 230 => 46 | 204 => 47 | 240 => 51 | 241 => 69 | 197 => 68 | 118 => 70 | 168 => 71 | 270 => 72 | 262 => 73 | 276 => 77 | 277 => 86 | 260 => 85 | 242 => 87 | 313 => 88 | 278 => 95 | 274 => 96 | 275 => 97 | n => n, fun | 9 => 9 | 4 => 4 | 3 => 3 | 5 => 5 | 72 => 59 | 0 => 0 | 76 => 62 | 75 => 41 | 107 => 76 | 70 => 57 | 20 => 20 | 37 => 38 | 127 => 82 | 21 => 21 | 105 => 94 | 164 => 112 | 162 => 125 | 203 => 123 | 119 => 72 | 46 => 67 | 139 => 137 | 138 => 136 | 51 => 78 | 160 => 138 | 208 => 149 | 206 => 147 | 80 => 64 | n => n, fun | 13 => 8 | 3 => 9 | 4 => 10 | n => n⟩
theorem Tryd.lays159 : Go.Proofs.Lays.n159 Tryd.prog Tryd.lays159_ren := {
  mixed := by kernel_rfl
  f118 := Tryd.func70.trans (congrArg some (by kernel_rfl))
  f159 := Tryd.func26.trans (congrArg some (by kernel_rfl))
  f165 := Tryd.func44.trans (congrArg some (by kernel_rfl))
  f166 := Tryd.func33.trans (congrArg some (by kernel_rfl))
  f167 := Tryd.func45.trans (congrArg some (by kernel_rfl))
  f168 := Tryd.func71.trans (congrArg some (by kernel_rfl))
  f169 := Tryd.func35.trans (congrArg some (by kernel_rfl))
  f197 := Tryd.func68.trans (congrArg some (by kernel_rfl))
  f204 := Tryd.func47.trans (congrArg some (by kernel_rfl))
  f230 := Tryd.func46.trans (congrArg some (by kernel_rfl))
  f240 := Tryd.func51.trans (congrArg some (by kernel_rfl))
  f241 := Tryd.func69.trans (congrArg some (by kernel_rfl))
  f242 := Tryd.func87.trans (congrArg some (by kernel_rfl))
  f260 := Tryd.func85.trans (congrArg some (by kernel_rfl))
  f262 := Tryd.func73.trans (congrArg some (by kernel_rfl))
  f270 := Tryd.func72.trans (congrArg some (by kernel_rfl))
  f274 := Tryd.func96.trans (congrArg some (by kernel_rfl))
  f275 := Tryd.func97.trans (congrArg some (by kernel_rfl))
  f276 := Tryd.func77.trans (congrArg some (by kernel_rfl))
  f277 := Tryd.func86.trans (congrArg some (by kernel_rfl))
  f278 := Tryd.func95.trans (congrArg some (by kernel_rfl))
  f313 := Tryd.func88.trans (congrArg some (by kernel_rfl))
  t0 := Tryd.underlying0
  a0 := Tryd.isAgg0
  z0 := Tryd.sizeOf0
  v0 := Tryd.zeroValue0
  t3 := Tryd.underlying3
  a3 := Tryd.isAgg3
  z3 := Tryd.sizeOf3
  v3 := Tryd.zeroValue3
  t4 := Tryd.underlying4
  a4 := Tryd.isAgg4
  z4 := Tryd.sizeOf4
  v4 := Tryd.zeroValue4
  t5 := Tryd.underlying5
  a5 := Tryd.isAgg5
  z5 := Tryd.sizeOf5
  v5 := Tryd.zeroValue5
  t9 := Tryd.underlying9
  a9 := Tryd.isAgg9
  z9 := Tryd.sizeOf9
  v9 := Tryd.zeroValue9
  t20 := Tryd.underlying20
  a20 := Tryd.isAgg20
  z20 := Tryd.sizeOf20
  v20 := Tryd.zeroValue20
  t21 := Tryd.underlying21
  a21 := Tryd.isAgg21
  z21 := Tryd.sizeOf21
  v21 := Tryd.zeroValue21
  t37 := Tryd.underlying38
  a37 := Tryd.isAgg38
  z37 := Tryd.sizeOf38
  v37 := Tryd.zeroValue38
  t46 := Tryd.underlying67
  a46 := Tryd.isAgg67
  z46 := Tryd.sizeOf67
  v46 := Tryd.zeroValue67
  t51 := Tryd.underlying78
  a51 := Tryd.isAgg78
  z51 := Tryd.sizeOf78
  v51 := Tryd.zeroValue78
  t70 := Tryd.underlying57
  a70 := Tryd.isAgg57
  z70 := Tryd.sizeOf57
  v70 := Tryd.zeroValue57
  t72 := Tryd.underlying59
  a72 := Tryd.isAgg59
  z72 := Tryd.sizeOf59
  v72 := Tryd.zeroValue59
  t75 := Tryd.underlying41
  a75 := Tryd.isAgg41
  z75 := Tryd.sizeOf41
  v75 := Tryd.zeroValue41
  t76 := Tryd.underlying62
  a76 := Tryd.isAgg62
  z76 := Tryd.sizeOf62
  v76 := Tryd.zeroValue62
  t105 := Tryd.underlying94
  a105 := Tryd.isAgg94
  z105 := Tryd.sizeOf94
  v105 := Tryd.zeroValue94
  t107 := Tryd.underlying76
  a107 := Tryd.isAgg76
  z107 := Tryd.sizeOf76
  v107 := Tryd.zeroValue76
  t119 := Tryd.underlying72
  a119 := Tryd.isAgg72
  z119 := Tryd.sizeOf72
  t127 := Tryd.underlying82
  a127 := Tryd.isAgg82
  z127 := Tryd.sizeOf82
  v127 := Tryd.zeroValue82
  t138 := Tryd.underlying136
  a138 := Tryd.isAgg136
  z138 := Tryd.sizeOf136
  v138 := Tryd.zeroValue136
  t139 := Tryd.underlying137
  a139 := Tryd.isAgg137
  z139 := Tryd.sizeOf137
  v139 := Tryd.zeroValue137
  t160 := Tryd.underlying138
  a160 := Tryd.isAgg138
  z160 := Tryd.sizeOf138
  v160 := Tryd.zeroValue138
  t162 := Tryd.underlying125
  a162 := Tryd.isAgg125
  z162 := Tryd.sizeOf125
  v162 := Tryd.zeroValue125
  t164 := Tryd.underlying112
  a164 := Tryd.isAgg112
  z164 := Tryd.sizeOf112
  v164 := Tryd.zeroValue112
  t203 := Tryd.underlying123
  a203 := Tryd.isAgg123
  z203 := Tryd.sizeOf123
  v203 := Tryd.zeroValue123
  t206 := Tryd.underlying147
  a206 := Tryd.isAgg147
  z206 := Tryd.sizeOf147
  v206 := Tryd.zeroValue147
  t208 := Tryd.underlying149
  a208 := Tryd.isAgg149
  z208 := Tryd.sizeOf149
  v208 := Tryd.zeroValue149
  g3 := by kernel_rfl
  g4 := by kernel_rfl
  g13 := by kernel_rfl }
theorem Tryd.Builder_Extra_159 : Builder.Extra Tryd.prog Tryd.lays159_ren := {
  sizeBuilder := by kernel_rfl
  liesBuilder := by kernel_rfl
  t5 := Tryd.underlying5
  a5 := Tryd.isAgg5
  z5 := Tryd.sizeOf5
  v5 := Tryd.zeroValue5
  infoByte := by kernel_rfl
  cellsByte := by kernel_rfl
  sizeByte := by kernel_rfl
  neB5 := by decide }
open Go.RowKit in
/-- strings.ToLower: "ToLower returns s with all Unicode letters mapped to their lower case.": ON ASCII TEXT OF AT MOST 2^47 BYTES. Below the heap's end the world is as it was: where a letter turns, the call makes a builder and its buffer. (LAID: no walk: one application.) -/
theorem Tryd.strings_ToLower_ascii (s : ByteArray) (w : World) (hs : s.size ≤ 140737488355328) (hascii : ∀ (j : Nat) (b : UInt8), s.data.toList[j]? = some b → b.toNat < 128) :
    Calls Tryd.prog 26 #[.string s] w fun e w' => e = .returned (.string ⟨(Lib.toLowerA s.data.toList).toArray⟩) ∧ Below w.heap.size w w' := Any.strings_ToLower_ascii Tryd.lays159 Tryd.Builder_Extra_159 s w hs hascii
def Tryd.lays163_ren : Go.Shelf.Ren := ⟨fun | 163 => 25 | 237 => 42 | 199 => 29 | 238 => 43 | 272 => 28 | 261 => 49 | 273 => 67 | 197 => 68 | 315 => 48 | 311 => 74 | 312 => 75 | 271 => 84 | 260 => 85 | 120 => 94 | n => n, fun | 9 => 9 | 37 => 38 | 3 => 3 | 0 => 0 | 5 => 5 | 4 => 4 | 40 => 54 | 119 => 72 | 21 => 21 | 51 => 78 | 141 => 80 | 105 => 94 | 196 => 103 | 193 => 100 | 198 => 106 | 49 => 104 | 194 => 101 | 201 => 109 | 226 => 126 | 46 => 67 | 227 => 127 | 139 => 137 | 138 => 136 | n => n, fun | 0 => 2 | 6 => 7 | 3 => 9 | 4 => 10 | n => n⟩
theorem Tryd.lays163 : Go.Proofs.Lays.n163 Tryd.prog Tryd.lays163_ren := {
  mixed := by kernel_rfl
  f120 := Tryd.func94.trans (congrArg some (by kernel_rfl))
  f163 := Tryd.func25.trans (congrArg some (by kernel_rfl))
  f197 := Tryd.func68.trans (congrArg some (by kernel_rfl))
  f199 := Tryd.func29.trans (congrArg some (by kernel_rfl))
  f237 := Tryd.func42.trans (congrArg some (by kernel_rfl))
  f238 := Tryd.func43.trans (congrArg some (by kernel_rfl))
  f260 := Tryd.func85.trans (congrArg some (by kernel_rfl))
  f261 := Tryd.func49.trans (congrArg some (by kernel_rfl))
  f271 := Tryd.func84.trans (congrArg some (by kernel_rfl))
  f272 := Tryd.func28.trans (congrArg some (by kernel_rfl))
  f273 := Tryd.func67.trans (congrArg some (by kernel_rfl))
  f311 := Tryd.func74.trans (congrArg some (by kernel_rfl))
  f312 := Tryd.func75.trans (congrArg some (by kernel_rfl))
  f315 := Tryd.func48.trans (congrArg some (by kernel_rfl))
  t0 := Tryd.underlying0
  a0 := Tryd.isAgg0
  z0 := Tryd.sizeOf0
  v0 := Tryd.zeroValue0
  t3 := Tryd.underlying3
  a3 := Tryd.isAgg3
  z3 := Tryd.sizeOf3
  v3 := Tryd.zeroValue3
  t4 := Tryd.underlying4
  a4 := Tryd.isAgg4
  z4 := Tryd.sizeOf4
  v4 := Tryd.zeroValue4
  t5 := Tryd.underlying5
  a5 := Tryd.isAgg5
  z5 := Tryd.sizeOf5
  v5 := Tryd.zeroValue5
  t9 := Tryd.underlying9
  a9 := Tryd.isAgg9
  z9 := Tryd.sizeOf9
  v9 := Tryd.zeroValue9
  t21 := Tryd.underlying21
  a21 := Tryd.isAgg21
  z21 := Tryd.sizeOf21
  v21 := Tryd.zeroValue21
  t37 := Tryd.underlying38
  a37 := Tryd.isAgg38
  z37 := Tryd.sizeOf38
  v37 := Tryd.zeroValue38
  t40 := Tryd.underlying54
  a40 := Tryd.isAgg54
  z40 := Tryd.sizeOf54
  v40 := Tryd.zeroValue54
  t46 := Tryd.underlying67
  a46 := Tryd.isAgg67
  z46 := Tryd.sizeOf67
  v46 := Tryd.zeroValue67
  t49 := Tryd.underlying104
  a49 := Tryd.isAgg104
  z49 := Tryd.sizeOf104
  v49 := Tryd.zeroValue104
  t51 := Tryd.underlying78
  a51 := Tryd.isAgg78
  z51 := Tryd.sizeOf78
  v51 := Tryd.zeroValue78
  t105 := Tryd.underlying94
  a105 := Tryd.isAgg94
  z105 := Tryd.sizeOf94
  v105 := Tryd.zeroValue94
  t119 := Tryd.underlying72
  a119 := Tryd.isAgg72
  z119 := Tryd.sizeOf72
  t138 := Tryd.underlying136
  a138 := Tryd.isAgg136
  z138 := Tryd.sizeOf136
  v138 := Tryd.zeroValue136
  t139 := Tryd.underlying137
  a139 := Tryd.isAgg137
  z139 := Tryd.sizeOf137
  v139 := Tryd.zeroValue137
  t141 := Tryd.underlying80
  a141 := Tryd.isAgg80
  z141 := Tryd.sizeOf80
  v141 := Tryd.zeroValue80
  t193 := Tryd.underlying100
  a193 := Tryd.isAgg100
  z193 := Tryd.sizeOf100
  v193 := Tryd.zeroValue100
  t194 := Tryd.underlying101
  a194 := Tryd.isAgg101
  z194 := Tryd.sizeOf101
  v194 := Tryd.zeroValue101
  t196 := Tryd.underlying103
  a196 := Tryd.isAgg103
  z196 := Tryd.sizeOf103
  v196 := Tryd.zeroValue103
  t198 := Tryd.underlying106
  a198 := Tryd.isAgg106
  z198 := Tryd.sizeOf106
  v198 := Tryd.zeroValue106
  t201 := Tryd.underlying109
  a201 := Tryd.isAgg109
  z201 := Tryd.sizeOf109
  v201 := Tryd.zeroValue109
  t226 := Tryd.underlying126
  a226 := Tryd.isAgg126
  z226 := Tryd.sizeOf126
  v226 := Tryd.zeroValue126
  t227 := Tryd.underlying127
  a227 := Tryd.isAgg127
  z227 := Tryd.sizeOf127
  v227 := Tryd.zeroValue127
  g0 := by kernel_rfl
  g3 := by kernel_rfl
  g4 := by kernel_rfl
  g6 := by kernel_rfl }
theorem Tryd.Space_Extra_163 : Space.Extra Tryd.prog Tryd.lays163_ren := {
  gNamed := by kernel_rfl }
open Go.RowKit in
theorem Tryd.strings_TrimSpace (s : ByteArray) (w : World) (hs : s.size ≤ 9223372036854775807) (hascii : ∀ (j : Nat) b, s.data.toList[j]? = some b → b.toNat < 128) (htab : Lib.TabIs Tryd.prog w "strings.asciiSpace" .u8 Lib.asciiSpaceTab) :
    Calls Tryd.prog 25 #[.string s] w fun e w' => e = .returned (.string ⟨(Lib.trimSpace s.data.toList).toArray⟩) ∧ w' = Lib.bytesWorld w 5 s := Any.strings_TrimSpace Tryd.lays163 Tryd.Space_Extra_163 s w hs hascii htab
def Tryd.lays118_ren : Go.Shelf.Ren := ⟨fun | 118 => 70 | n => n, fun | 21 => 21 | 3 => 3 | 4 => 4 | n => n, fun | n => n⟩
theorem Tryd.lays118 : Go.Proofs.Lays.n118 Tryd.prog Tryd.lays118_ren := {
  mixed := by kernel_rfl
  f118 := Tryd.func70.trans (congrArg some (by kernel_rfl))
  t3 := Tryd.underlying3
  a3 := Tryd.isAgg3
  z3 := Tryd.sizeOf3
  v3 := Tryd.zeroValue3
  t4 := Tryd.underlying4
  a4 := Tryd.isAgg4
  z4 := Tryd.sizeOf4
  v4 := Tryd.zeroValue4
  t21 := Tryd.underlying21
  a21 := Tryd.isAgg21
  z21 := Tryd.sizeOf21
  v21 := Tryd.zeroValue21 }
/-- utf8.RuneLen: "RuneLen returns the number of bytes in the UTF-8 encoding of the rune. It returns -1 if the rune is not a valid value to encode in UTF-8.": IT RETURNS 'Lib.runeLen r'; the world is as it was. (LAID: no walk: one application.) -/
theorem Tryd.utf8_RuneLen (r : Int) (w : World) :
    Calls Tryd.prog 70 #[.int .i32 r] w fun e w' => e = .returned (.int .i64 (Lib.runeLen r)) ∧ w' = w := Any.utf8_RuneLen Tryd.lays118 r w
def Tryd.lays120_ren : Go.Shelf.Ren := ⟨fun | 120 => 94 | n => n, fun | 5 => 5 | 4 => 4 | n => n, fun | n => n⟩
theorem Tryd.lays120 : Go.Proofs.Lays.n120 Tryd.prog Tryd.lays120_ren := {
  mixed := by kernel_rfl
  f120 := Tryd.func94.trans (congrArg some (by kernel_rfl))
  t4 := Tryd.underlying4
  a4 := Tryd.isAgg4
  z4 := Tryd.sizeOf4
  v4 := Tryd.zeroValue4
  t5 := Tryd.underlying5
  a5 := Tryd.isAgg5
  z5 := Tryd.sizeOf5
  v5 := Tryd.zeroValue5 }
/-- utf8.RuneStart: "RuneStart reports whether the byte could be the first byte of an encoded, possibly invalid rune. Second and subsequent bytes always have the top two bits set to 10.": IT RETURNS 'Lib.runeStart b'; the world is as it was. ('h0', 'h1': b is a byte: a caller has it of every byte that it was handed.) (LAID: no walk: one application.) -/
theorem Tryd.utf8_RuneStart (b : Int) (w : World) (h0 : 0 ≤ b) (h1 : b < 256) :
    Calls Tryd.prog 94 #[.int .u8 b] w fun e w' => e = .returned (.bool (Lib.runeStart b)) ∧ w' = w := Any.utf8_RuneStart Tryd.lays120 b w h0 h1
def Tryd.lays128_ren : Go.Shelf.Ren := ⟨fun | 128 => 62 | n => n, fun | 51 => 78 | 3 => 3 | 4 => 4 | 46 => 67 | 5 => 5 | 9 => 9 | n => n, fun | n => n⟩
theorem Tryd.lays128 : Go.Proofs.Lays.n128 Tryd.prog Tryd.lays128_ren := {
  mixed := by kernel_rfl
  f128 := Tryd.func62.trans (congrArg some (by kernel_rfl))
  t3 := Tryd.underlying3
  a3 := Tryd.isAgg3
  z3 := Tryd.sizeOf3
  v3 := Tryd.zeroValue3
  t4 := Tryd.underlying4
  a4 := Tryd.isAgg4
  z4 := Tryd.sizeOf4
  v4 := Tryd.zeroValue4
  t5 := Tryd.underlying5
  a5 := Tryd.isAgg5
  z5 := Tryd.sizeOf5
  v5 := Tryd.zeroValue5
  t9 := Tryd.underlying9
  a9 := Tryd.isAgg9
  z9 := Tryd.sizeOf9
  v9 := Tryd.zeroValue9
  t46 := Tryd.underlying67
  a46 := Tryd.isAgg67
  z46 := Tryd.sizeOf67
  v46 := Tryd.zeroValue67
  t51 := Tryd.underlying78
  a51 := Tryd.isAgg78
  z51 := Tryd.sizeOf78
  v51 := Tryd.zeroValue78 }
/-- bits.Len32: "Len32 returns the minimum number of bits required to represent x; the result is 0 for x == 0.": IT RETURNS 'Lib.bitLen x'; the world is as it was. ('h0', 'h1': x is a uint32.) (LAID: no walk: one application.) -/
theorem Tryd.bits_Len32 (x : Int) (w : World) (h0 : 0 ≤ x) (h1 : x ≤ 4294967295) :
    Calls Tryd.prog 62 #[.int .u32 x] w fun e w' => e = .returned (.int .i64 (Lib.bitLen x.toNat)) ∧ w' = w := Any.bits_Len32 Tryd.lays128 x w h0 h1
def Tryd.lays125_ren : Go.Shelf.Ren := ⟨fun | 125 => 37 | 128 => 62 | 129 => 63 | n => n, fun | 46 => 67 | 3 => 3 | 51 => 78 | 53 => 93 | 4 => 4 | 5 => 5 | 9 => 9 | n => n, fun | n => n⟩
theorem Tryd.lays125 : Go.Proofs.Lays.n125 Tryd.prog Tryd.lays125_ren := {
  mixed := by kernel_rfl
  f125 := Tryd.func37.trans (congrArg some (by kernel_rfl))
  f128 := Tryd.func62.trans (congrArg some (by kernel_rfl))
  f129 := Tryd.func63.trans (congrArg some (by kernel_rfl))
  t3 := Tryd.underlying3
  a3 := Tryd.isAgg3
  z3 := Tryd.sizeOf3
  v3 := Tryd.zeroValue3
  t4 := Tryd.underlying4
  a4 := Tryd.isAgg4
  z4 := Tryd.sizeOf4
  v4 := Tryd.zeroValue4
  t5 := Tryd.underlying5
  a5 := Tryd.isAgg5
  z5 := Tryd.sizeOf5
  v5 := Tryd.zeroValue5
  t9 := Tryd.underlying9
  a9 := Tryd.isAgg9
  z9 := Tryd.sizeOf9
  v9 := Tryd.zeroValue9
  t46 := Tryd.underlying67
  a46 := Tryd.isAgg67
  z46 := Tryd.sizeOf67
  v46 := Tryd.zeroValue67
  t51 := Tryd.underlying78
  a51 := Tryd.isAgg78
  z51 := Tryd.sizeOf78
  v51 := Tryd.zeroValue78
  t53 := Tryd.underlying93
  a53 := Tryd.isAgg93
  z53 := Tryd.sizeOf93
  v53 := Tryd.zeroValue93 }
/-- bits.Len: "Len returns the minimum number of bits required to represent x; the result is 0 for x == 0.": IT RETURNS 'Lib.bitLen x'; the world is as it was. (A uint has 64 bits in the model.) ITS CALLEE bits.Len64 IS MET BY ITS OWN CONTRACT OFF THE SHELF (lay that first). (LAID: no walk: one application.) -/
theorem Tryd.bits_Len (x : Int) (w : World) (h0 : 0 ≤ x) (h1 : x ≤ 18446744073709551615) :
    Calls Tryd.prog 37 #[.int .u64 x] w fun e w' => e = .returned (.int .i64 (Lib.bitLen x.toNat)) ∧ w' = w := Any.bits_Len Tryd.lays125 x w h0 h1
def Tryd.lays210_ren : Go.Shelf.Ren := ⟨fun | 210 => 64 | 206 => 83 | n => n, fun | 9 => 9 | 4 => 4 | 3 => 3 | n => n, fun | n => n⟩
theorem Tryd.lays210 : Go.Proofs.Lays.n210 Tryd.prog Tryd.lays210_ren := {
  mixed := by kernel_rfl
  f206 := Tryd.func83.trans (congrArg some (by kernel_rfl))
  f210 := Tryd.func64.trans (congrArg some (by kernel_rfl))
  t3 := Tryd.underlying3
  a3 := Tryd.isAgg3
  z3 := Tryd.sizeOf3
  v3 := Tryd.zeroValue3
  t4 := Tryd.underlying4
  a4 := Tryd.isAgg4
  z4 := Tryd.sizeOf4
  v4 := Tryd.zeroValue4
  t9 := Tryd.underlying9
  a9 := Tryd.isAgg9
  z9 := Tryd.sizeOf9
  v9 := Tryd.zeroValue9 }
open Go.RowKit in
/-- internal/stringslite.CutPrefix (what strings.CutPrefix calls). (LAID: no walk: one application.) -/
theorem Tryd.stringslite_CutPrefix (s p : ByteArray) (w : World) :
    Calls Tryd.prog 64 #[.string s, .string p] w fun e w' => e = .returned (.tuple #[.string ⟨(Lib.trimPrefix s.data.toList p.data.toList).toArray⟩, .bool (Lib.hasPrefix s.data.toList p.data.toList)]) ∧ w' = w := Any.stringslite_CutPrefix Tryd.lays210 s p w
def Tryd.lays103_ren : Go.Shelf.Ren := ⟨fun | 103 => 38 | 210 => 64 | 206 => 83 | n => n, fun | 9 => 9 | 4 => 4 | 24 => 56 | 3 => 3 | n => n, fun | n => n⟩
theorem Tryd.lays103 : Go.Proofs.Lays.n103 Tryd.prog Tryd.lays103_ren := {
  mixed := by kernel_rfl
  f103 := Tryd.func38.trans (congrArg some (by kernel_rfl))
  f206 := Tryd.func83.trans (congrArg some (by kernel_rfl))
  f210 := Tryd.func64.trans (congrArg some (by kernel_rfl))
  t3 := Tryd.underlying3
  a3 := Tryd.isAgg3
  z3 := Tryd.sizeOf3
  v3 := Tryd.zeroValue3
  t4 := Tryd.underlying4
  a4 := Tryd.isAgg4
  z4 := Tryd.sizeOf4
  v4 := Tryd.zeroValue4
  t9 := Tryd.underlying9
  a9 := Tryd.isAgg9
  z9 := Tryd.sizeOf9
  v9 := Tryd.zeroValue9
  t24 := Tryd.underlying56
  a24 := Tryd.isAgg56
  z24 := Tryd.sizeOf56
  v24 := Tryd.zeroValue56 }
open Go.RowKit in
/-- strings.CutPrefix: "CutPrefix returns s without the provided leading prefix string and reports whether it found the prefix. If s doesn't start with prefix, CutPrefix returns s, false. If prefix is the empty string, CutPrefix returns s, true.": IT RETURNS '(Lib.trimPrefix s p, Lib.hasPrefix s p)'; the world is as it was. (LAID: no walk: one application.) -/
theorem Tryd.strings_CutPrefix (s p : ByteArray) (w : World) :
    Calls Tryd.prog 38 #[.string s, .string p] w fun e w' => e = .returned (.tuple #[.string ⟨(Lib.trimPrefix s.data.toList p.data.toList).toArray⟩, .bool (Lib.hasPrefix s.data.toList p.data.toList)]) ∧ w' = w := Any.strings_CutPrefix Tryd.lays103 s p w
open Go.RowKit in
/-- (*strings.Builder).String: "String returns the accumulated string.": OF A BUILDER THAT HOLDS AT LEAST ONE BYTE. ✋ THE MODEL FREEZES THOSE BYTES IN THE BUFFER (unsafe.String): a later write INTO them ends the model's run without an answer; a later append BEHIND them goes on. The statement's order of evaluation is drawn: one draw. THE FORM '_f': IT SAYS BESIDES THAT THE BUILDER IS A BUILDER STILL ('Lib.IsBuilderF', the same bytes): SO IT CAN BE WRITTEN ON: 'b.WriteString(b.String()[:k])'. (LAID: no walk: one application.) -/
theorem Tryd.Builder_String_f (B b : Nat) (l : List UInt8) (w : World) (h : Lib.IsBuilderF 59 5 B b (Lib.byteCells l) w) (h0 : l ≠ []) :
    Calls Tryd.prog 35 #[.pointer (some ⟨b, 0, none⟩)] w fun e w' => e = .returned (.string ⟨l.toArray⟩) ∧ (Lib.IsBuilderF 59 5 B b (Lib.byteCells l) w' ∧ Below B w w') := Any.Builder_String_f Tryd.lays169 Tryd.Builder_Extra_169 B b l w h h0
open Go.RowKit in
/-- (*strings.Builder).String OF A BUILDER THAT HOLDS NO BYTE: the empty string; THE FORM '_f': a builder still. (LAID: no walk: one application.) -/
theorem Tryd.Builder_String_empty_f (B b : Nat) (w : World) (h : Lib.IsBuilderF 59 5 B b [] w) (hBw : B ≤ w.heap.size) :
    Calls Tryd.prog 35 #[.pointer (some ⟨b, 0, none⟩)] w fun e w' => e = .returned (.string ⟨#[]⟩) ∧ (Lib.IsBuilderF 59 5 B b [] w' ∧ Below B w w') := Any.Builder_String_empty_f Tryd.lays169 Tryd.Builder_Extra_169 B b w h hBw
open Go.RowKit in
/-- (*strings.Builder).String: "String returns the accumulated string.": WHATEVER THE BUILDER HOLDS; THE FORM '_f': OF A BUILDER THAT MAY HAVE BEEN READ BEFORE; AND IT IS A BUILDER STILL, holding the same bytes: it can be written on. (LAID: no walk: one application.) -/
theorem Tryd.Builder_String_any_f (B b : Nat) (l : List UInt8) (w : World) (h : Lib.IsBuilderF 59 5 B b (Lib.byteCells l) w) (hBw : B ≤ w.heap.size) :
    Calls Tryd.prog 35 #[.pointer (some ⟨b, 0, none⟩)] w fun e w' => e = .returned (.string ⟨l.toArray⟩) ∧ (Lib.IsBuilderF 59 5 B b (Lib.byteCells l) w' ∧ Below B w w') := Any.Builder_String_any_f Tryd.lays169 Tryd.Builder_Extra_169 B b l w h hBw
open Go.RowKit in
/-- (*strings.Builder).String: "String returns the accumulated string.": OF A BUILDER THAT HOLDS AT LEAST ONE BYTE. ✋ THE MODEL FREEZES THOSE BYTES IN THE BUFFER (unsafe.String): a later write INTO them ends the model's run without an answer; a later append BEHIND them goes on. The statement's order of evaluation is drawn: one draw. THE FORM '_k': OVER 'Lib.IsBuilderF' (a builder that 'String()' may have read), AND WITH THE FRAME THAT REACHES ABOVE THE BUILDER: 'Lib.OthersKept': every block that is not b and is no row of uint8's stands as it stood: the iterator of a range among them. (LAID: no walk: one application.) -/
theorem Tryd.Builder_String_k (B b : Nat) (l : List UInt8) (w : World) (h : Lib.IsBuilderF 59 5 B b (Lib.byteCells l) w) (h0 : l ≠ []) :
    Calls Tryd.prog 35 #[.pointer (some ⟨b, 0, none⟩)] w fun e w' => e = .returned (.string ⟨l.toArray⟩) ∧ (Lib.IsBuilderF 59 5 B b (Lib.byteCells l) w' ∧ Below B w w' ∧ Lib.OthersKept 5 (some b) w w') := Any.Builder_String_k Tryd.lays169 Tryd.Builder_Extra_169 B b l w h h0
open Go.RowKit in
/-- (*strings.Builder).String OF A BUILDER THAT HOLDS NO BYTE: the empty string; THE FORM '_k': OVER 'Lib.IsBuilderF' (a builder that 'String()' may have read), AND WITH THE FRAME THAT REACHES ABOVE THE BUILDER: 'Lib.OthersKept': every block that is not b and is no row of uint8's stands as it stood: the iterator of a range among them. (LAID: no walk: one application.) -/
theorem Tryd.Builder_String_empty_k (B b : Nat) (w : World) (h : Lib.IsBuilderF 59 5 B b [] w) (hBw : B ≤ w.heap.size) :
    Calls Tryd.prog 35 #[.pointer (some ⟨b, 0, none⟩)] w fun e w' => e = .returned (.string ⟨#[]⟩) ∧ (Lib.IsBuilderF 59 5 B b [] w' ∧ Below B w w' ∧ Lib.OthersKept 5 (some b) w w') := Any.Builder_String_empty_k Tryd.lays169 Tryd.Builder_Extra_169 B b w h hBw
open Go.RowKit in
/-- (*strings.Builder).String: "String returns the accumulated string.": WHATEVER THE BUILDER HOLDS; THE FORM '_k': OVER 'Lib.IsBuilderF' (a builder that 'String()' may have read), AND WITH THE FRAME THAT REACHES ABOVE THE BUILDER: 'Lib.OthersKept': every block that is not b and is no row of uint8's stands as it stood: the iterator of a range among them. (LAID: no walk: one application.) -/
theorem Tryd.Builder_String_any_k (B b : Nat) (l : List UInt8) (w : World) (h : Lib.IsBuilderF 59 5 B b (Lib.byteCells l) w) (hBw : B ≤ w.heap.size) :
    Calls Tryd.prog 35 #[.pointer (some ⟨b, 0, none⟩)] w fun e w' => e = .returned (.string ⟨l.toArray⟩) ∧ (Lib.IsBuilderF 59 5 B b (Lib.byteCells l) w' ∧ Below B w w' ∧ Lib.OthersKept 5 (some b) w w') := Any.Builder_String_any_k Tryd.lays169 Tryd.Builder_Extra_169 B b l w h hBw
def Tryd.lays278_ren : Go.Shelf.Ren := ⟨fun | 278 => 95 | n => n, fun | 37 => 38 | 21 => 21 | 51 => 78 | 4 => 4 | 46 => 67 | 5 => 5 | n => n, fun | n => n⟩
theorem Tryd.lays278 : Go.Proofs.Lays.n278 Tryd.prog Tryd.lays278_ren := {
  mixed := by kernel_rfl
  f278 := Tryd.func95.trans (congrArg some (by kernel_rfl))
  t4 := Tryd.underlying4
  a4 := Tryd.isAgg4
  z4 := Tryd.sizeOf4
  v4 := Tryd.zeroValue4
  t5 := Tryd.underlying5
  a5 := Tryd.isAgg5
  z5 := Tryd.sizeOf5
  v5 := Tryd.zeroValue5
  t21 := Tryd.underlying21
  a21 := Tryd.isAgg21
  z21 := Tryd.sizeOf21
  v21 := Tryd.zeroValue21
  t37 := Tryd.underlying38
  a37 := Tryd.isAgg38
  z37 := Tryd.sizeOf38
  v37 := Tryd.zeroValue38
  t46 := Tryd.underlying67
  a46 := Tryd.isAgg67
  z46 := Tryd.sizeOf67
  v46 := Tryd.zeroValue67
  t51 := Tryd.underlying78
  a51 := Tryd.isAgg78
  z51 := Tryd.sizeOf78
  v51 := Tryd.zeroValue78 }
open Go.RowKit in
/-- unicode/utf8.appendRuneNonASCII (what AppendRune calls for all but ASCII), ONTO A ROW OF BYTES THAT THE CALL OWNS: every int32 that is no ASCII rune: 'Lib.runeCells r' goes in behind what the row holds. (LAID: no walk: one application.) -/
theorem Tryd.utf8_appendRuneNonASCII_row (B : Nat) (v : Value) (n : Nat) (xs : List Value) (r : Int) (hr0 : -2147483648 ≤ r) (hr1 : r ≤ 2147483647) (hna : r < 0 ∨ 128 ≤ r) (w : World) (hown : w.ownsRowF B 5 1 v n xs) (hlen : n + 4 ≤ 140737488355328) (hBw : B ≤ w.heap.size) :
    Calls Tryd.prog 95 #[v, .int .i32 r] w fun e w' => ∃ v', e = .returned v' ∧ w'.ownsRowF B 5 1 v' (n + (Lib.runeCells r).length) (xs ++ Lib.runeCells r) ∧ ∃ o, (w.alloc o).grownBy w' v.ownBlock := Any.utf8_appendRuneNonASCII_row Tryd.lays278 (by kernel_rfl) B v n xs r hr0 hr1 hna w hown hlen hBw
def Tryd.lays242_ren : Go.Shelf.Ren := ⟨fun | 242 => 87 | 278 => 95 | n => n, fun | 37 => 38 | 21 => 21 | 51 => 78 | 4 => 4 | 5 => 5 | 46 => 67 | n => n, fun | n => n⟩
theorem Tryd.lays242 : Go.Proofs.Lays.n242 Tryd.prog Tryd.lays242_ren := {
  mixed := by kernel_rfl
  f242 := Tryd.func87.trans (congrArg some (by kernel_rfl))
  f278 := Tryd.func95.trans (congrArg some (by kernel_rfl))
  t4 := Tryd.underlying4
  a4 := Tryd.isAgg4
  z4 := Tryd.sizeOf4
  v4 := Tryd.zeroValue4
  t5 := Tryd.underlying5
  a5 := Tryd.isAgg5
  z5 := Tryd.sizeOf5
  v5 := Tryd.zeroValue5
  t21 := Tryd.underlying21
  a21 := Tryd.isAgg21
  z21 := Tryd.sizeOf21
  v21 := Tryd.zeroValue21
  t37 := Tryd.underlying38
  a37 := Tryd.isAgg38
  z37 := Tryd.sizeOf38
  v37 := Tryd.zeroValue38
  t46 := Tryd.underlying67
  a46 := Tryd.isAgg67
  z46 := Tryd.sizeOf67
  v46 := Tryd.zeroValue67
  t51 := Tryd.underlying78
  a51 := Tryd.isAgg78
  z51 := Tryd.sizeOf78
  v51 := Tryd.zeroValue78 }
open Go.RowKit in
/-- unicode/utf8.AppendRune: "AppendRune appends the UTF-8 encoding of r to the end of p and returns the extended buffer. If the rune is out of range, it appends the encoding of RuneError.": ONTO A ROW OF BYTES THAT THE CALL OWNS (its head frozen or not): EVERY int32: 'Lib.runeCells r' goes in behind what the row holds; the world: one new block (the bytes as the call's variadic argument), then what 'append' does to the row. (LAID: no walk: one application.) -/
theorem Tryd.utf8_AppendRune_row (B : Nat) (v : Value) (n : Nat) (xs : List Value) (r : Int) (hr0 : -2147483648 ≤ r) (hr1 : r ≤ 2147483647) (w : World) (hown : w.ownsRowF B 5 1 v n xs) (hlen : n + 4 ≤ 140737488355328) (hBw : B ≤ w.heap.size) :
    Calls Tryd.prog 87 #[v, .int .i32 r] w fun e w' => ∃ v', e = .returned v' ∧ w'.ownsRowF B 5 1 v' (n + (Lib.runeCells r).length) (xs ++ Lib.runeCells r) ∧ ∃ o, (w.alloc o).grownBy w' v.ownBlock := Any.utf8_AppendRune_row Tryd.lays242 (by kernel_rfl) B v n xs r hr0 hr1 w hown hlen hBw
open Go.RowKit in
/-- unicode/utf8.appendRuneNonASCII (what AppendRune calls for all but ASCII), ONTO A ROW OF BYTES THAT THE CALL OWNS: every int32 that is no ASCII rune: 'Lib.runeCells r' goes in behind what the row holds. (LAID: no walk: one application.) -/
theorem Tryd.utf8_appendRuneNonASCII_plain (B : Nat) (v : Value) (n : Nat) (xs : List Value) (r : Int) (hr0 : -2147483648 ≤ r) (hr1 : r ≤ 2147483647) (hna : r < 0 ∨ 128 ≤ r) (w : World) (hown : w.ownsRow B 5 1 v n xs) (hlen : n + 4 ≤ 140737488355328) (hBw : B ≤ w.heap.size) :
    Calls Tryd.prog 95 #[v, .int .i32 r] w fun e w' => ∃ v', e = .returned v' ∧ w'.ownsRow B 5 1 v' (n + (Lib.runeCells r).length) (xs ++ Lib.runeCells r) ∧ ∃ o, (w.alloc o).grownBy w' v.ownBlock := Any.utf8_appendRuneNonASCII_plain Tryd.lays278 (by kernel_rfl) B v n xs r hr0 hr1 hna w hown hlen hBw
open Go.RowKit in
/-- unicode/utf8.AppendRune: "AppendRune appends the UTF-8 encoding of r to the end of p and returns the extended buffer. If the rune is out of range, it appends the encoding of RuneError.": ONTO A ROW OF BYTES THAT THE CALL OWNS (its head frozen or not): EVERY int32: 'Lib.runeCells r' goes in behind what the row holds; the world: one new block (the bytes as the call's variadic argument), then what 'append' does to the row. (LAID: no walk: one application.) -/
theorem Tryd.utf8_AppendRune_plain (B : Nat) (v : Value) (n : Nat) (xs : List Value) (r : Int) (hr0 : -2147483648 ≤ r) (hr1 : r ≤ 2147483647) (w : World) (hown : w.ownsRow B 5 1 v n xs) (hlen : n + 4 ≤ 140737488355328) (hBw : B ≤ w.heap.size) :
    Calls Tryd.prog 87 #[v, .int .i32 r] w fun e w' => ∃ v', e = .returned v' ∧ w'.ownsRow B 5 1 v' (n + (Lib.runeCells r).length) (xs ++ Lib.runeCells r) ∧ ∃ o, (w.alloc o).grownBy w' v.ownBlock := Any.utf8_AppendRune_plain Tryd.lays242 (by kernel_rfl) B v n xs r hr0 hr1 w hown hlen hBw
open Go.RowKit in
/-- (*strings.Builder).grow (no doc but "grow copies the buffer to a new, larger buffer so that there are at least n bytes of capacity beyond len(b.buf)."): AT A BUILDER WITHOUT A BUFFER: a new row of whatever bytes for its buffer, none of them its own yet. Three draws. (LAID: no walk: one application.) -/
theorem Tryd.Builder_grow_fresh_cap (B b n : Nat) (w : World) (hB : B ≤ b) (hbk : w.heap[b]? = some (.cells #[.pointer (some ⟨b, 0, none⟩), .slice none 0 0] 59 (0, 0))) (hBw : B ≤ w.heap.size) (hn : n ≤ 281474976710656) :
    Calls Tryd.prog 69 #[.pointer (some ⟨b, 0, none⟩), .int .i64 n] w fun e w' => e = .returned (.tuple #[]) ∧ (Lib.BuilderAt 59 5 B b (.pointer (some ⟨b, 0, none⟩)) [] w' ∧ Below B w w') ∧ ∃ p cap, w'.cell? ⟨b, 1, none⟩ = some (.slice p 0 cap) ∧ n ≤ cap := Any.Builder_grow_fresh_cap Tryd.lays241 Tryd.Builder_Extra_241 B b n w hB hbk hBw hn
open Go.RowKit in
/-- (*strings.Builder).Grow AT A BUILDER THAT HAS NOT BEEN WRITTEN ('var b strings.Builder; b.Grow(n)'): "Grow grows b's capacity, if necessary, to guarantee space for another n bytes.": it holds no byte behind it as before it. (LAID: no walk: one application.) -/
theorem Tryd.Builder_Grow_fresh_cap (B b n : Nat) (w : World) (hB : B ≤ b) (hbk : w.heap[b]? = some (.cells #[.pointer none, .slice none 0 0] 59 (0, 0))) (hBw : B ≤ w.heap.size) (hn : n ≤ 281474976710656) :
    Calls Tryd.prog 44 #[.pointer (some ⟨b, 0, none⟩), .int .i64 n] w fun e w' => e = .returned (.tuple #[]) ∧ (Lib.BuilderAt 59 5 B b (.pointer (some ⟨b, 0, none⟩)) [] w' ∧ Below B w w') ∧ ∃ p cap, w'.cell? ⟨b, 1, none⟩ = some (.slice p 0 cap) ∧ n ≤ cap := Any.Builder_Grow_fresh_cap Tryd.lays165 Tryd.Builder_Extra_165 B b n w hB hbk hBw hn
def Tryd.lays129_ren : Go.Shelf.Ren := ⟨fun | 129 => 63 | n => n, fun | 53 => 93 | 3 => 3 | 4 => 4 | 46 => 67 | 5 => 5 | 9 => 9 | n => n, fun | n => n⟩
theorem Tryd.lays129 : Go.Proofs.Lays.n129 Tryd.prog Tryd.lays129_ren := {
  mixed := by kernel_rfl
  f129 := Tryd.func63.trans (congrArg some (by kernel_rfl))
  t3 := Tryd.underlying3
  a3 := Tryd.isAgg3
  z3 := Tryd.sizeOf3
  v3 := Tryd.zeroValue3
  t4 := Tryd.underlying4
  a4 := Tryd.isAgg4
  z4 := Tryd.sizeOf4
  v4 := Tryd.zeroValue4
  t5 := Tryd.underlying5
  a5 := Tryd.isAgg5
  z5 := Tryd.sizeOf5
  v5 := Tryd.zeroValue5
  t9 := Tryd.underlying9
  a9 := Tryd.isAgg9
  z9 := Tryd.sizeOf9
  v9 := Tryd.zeroValue9
  t46 := Tryd.underlying67
  a46 := Tryd.isAgg67
  z46 := Tryd.sizeOf67
  v46 := Tryd.zeroValue67
  t53 := Tryd.underlying93
  a53 := Tryd.isAgg93
  z53 := Tryd.sizeOf93
  v53 := Tryd.zeroValue93 }
/-- bits.Len64: "Len64 returns the minimum number of bits required to represent x; the result is 0 for x == 0.": IT RETURNS 'Lib.bitLen x'; the world is as it was. ('h0', 'h1': x is a uint64.) (LAID: no walk: one application.) -/
theorem Tryd.bits_Len64 (x : Int) (w : World) (h0 : 0 ≤ x) (h1 : x ≤ 18446744073709551615) :
    Calls Tryd.prog 63 #[.int .u64 x] w fun e w' => e = .returned (.int .i64 (Lib.bitLen x.toNat)) ∧ w' = w := Any.bits_Len64 Tryd.lays129 x w h0 h1
def Tryd.lays317_ren : Go.Shelf.Ren := ⟨fun | 317 => 98 | n => n, fun | 3 => 3 | 46 => 67 | n => n, fun | n => n⟩
theorem Tryd.lays317 : Go.Proofs.Lays.n317 Tryd.prog Tryd.lays317_ren := {
  mixed := by kernel_rfl
  f317 := Tryd.func98.trans (congrArg some (by kernel_rfl))
  t3 := Tryd.underlying3
  a3 := Tryd.isAgg3
  z3 := Tryd.sizeOf3
  v3 := Tryd.zeroValue3
  t46 := Tryd.underlying67
  a46 := Tryd.isAgg67
  z46 := Tryd.sizeOf67
  v46 := Tryd.zeroValue67 }
open Go.Lib in
/-- internal/strconv.log10Pow2: "log10Pow2(x) returns ⌊log₁₀ 2**x⌋ = ⌊x * log₁₀ 2⌋.": '(x * 78913) >> 18', at an x up to 64 (a length in bits). The world is as it was. (LAID: no walk: one application.) -/
theorem Tryd.internal_strconv_log10Pow2 (x : Nat) (h : x ≤ 64) (w : World) :
    Calls Tryd.prog 98 #[.int .i64 x] w fun e w' => e = .returned (.int .i64 (Lib.l10 x)) ∧ w' = w := Any.internal_strconv_log10Pow2 Tryd.lays317 x h w
def Tryd.lays318_ren : Go.Shelf.Ren := ⟨fun | 318 => 99 | n => n, fun | 3 => 3 | 4 => 4 | n => n, fun | n => n⟩
theorem Tryd.lays318 : Go.Proofs.Lays.n318 Tryd.prog Tryd.lays318_ren := {
  mixed := by kernel_rfl
  f318 := Tryd.func99.trans (congrArg some (by kernel_rfl))
  t3 := Tryd.underlying3
  a3 := Tryd.isAgg3
  z3 := Tryd.sizeOf3
  v3 := Tryd.zeroValue3
  t4 := Tryd.underlying4
  a4 := Tryd.isAgg4
  z4 := Tryd.sizeOf4
  v4 := Tryd.zeroValue4 }
open Go.Lib in
/-- internal/strconv.bool2: "bool2 converts b to an integer: 1 for true, 0 for false." The world is as it was. (LAID: no walk: one application.) -/
theorem Tryd.internal_strconv_bool2_int (b : Bool) (w : World) :
    Calls Tryd.prog 99 #[.bool b] w fun e w' => e = .returned (.int .i64 (if b then 1 else 0)) ∧ w' = w := Any.internal_strconv_bool2_int Tryd.lays318 b w
def Tryd.lays283_ren : Go.Shelf.Ren := ⟨fun | 283 => 89 | n => n, fun | 3 => 3 | 9 => 9 | 4 => 4 | n => n, fun | n => n⟩
theorem Tryd.lays283 : Go.Proofs.Lays.n283 Tryd.prog Tryd.lays283_ren := {
  mixed := by kernel_rfl
  f283 := Tryd.func89.trans (congrArg some (by kernel_rfl))
  t3 := Tryd.underlying3
  a3 := Tryd.isAgg3
  z3 := Tryd.sizeOf3
  v3 := Tryd.zeroValue3
  t4 := Tryd.underlying4
  a4 := Tryd.isAgg4
  z4 := Tryd.sizeOf4
  v4 := Tryd.zeroValue4
  t9 := Tryd.underlying9
  a9 := Tryd.isAgg9
  z9 := Tryd.sizeOf9
  v9 := Tryd.zeroValue9 }
open Go.Lib in
/-- internal/strconv.small: "small returns the string for an i with 0 <= i < nSmalls.": i's decimal numeral. The world is as it was. (LAID: no walk: one application.) -/
theorem Tryd.internal_strconv_small (i : Nat) (h : i < 100) (w : World) :
    Calls Tryd.prog 89 #[.int .i64 i] w fun e w' => e = .returned (.string ⟨(Lib.decDigits i).toArray⟩) ∧ w' = w := Any.internal_strconv_small Tryd.lays283 i h w
def Tryd.laysM284_ren : Go.Shelf.Ren := ⟨fun | 284 => 90 | 129 => 63 | 317 => 98 | 318 => 99 | n => n, fun | 53 => 93 | 3 => 3 | 212 => 143 | 0 => 0 | 4 => 4 | 46 => 67 | 5 => 5 | 9 => 9 | n => n, fun | 17 => 12 | n => n⟩
theorem Tryd.laysM284 : Go.Proofs.LaysM.n284 Tryd.prog Tryd.laysM284_ren := {
  mixed := by kernel_rfl
  f129 := Tryd.func63.trans (congrArg some (by kernel_rfl))
  f284 := Tryd.func90.trans (congrArg some (by kernel_rfl))
  f317 := Tryd.func98.trans (congrArg some (by kernel_rfl))
  f318 := Tryd.func99.trans (congrArg some (by kernel_rfl))
  t0 := Tryd.underlying0
  a0 := Tryd.isAgg0
  z0 := Tryd.sizeOf0
  v0 := Tryd.zeroValue0
  t3 := Tryd.underlying3
  a3 := Tryd.isAgg3
  z3 := Tryd.sizeOf3
  v3 := Tryd.zeroValue3
  t4 := Tryd.underlying4
  a4 := Tryd.isAgg4
  z4 := Tryd.sizeOf4
  v4 := Tryd.zeroValue4
  t5 := Tryd.underlying5
  a5 := Tryd.isAgg5
  z5 := Tryd.sizeOf5
  v5 := Tryd.zeroValue5
  t9 := Tryd.underlying9
  a9 := Tryd.isAgg9
  z9 := Tryd.sizeOf9
  v9 := Tryd.zeroValue9
  t46 := Tryd.underlying67
  a46 := Tryd.isAgg67
  z46 := Tryd.sizeOf67
  v46 := Tryd.zeroValue67
  t53 := Tryd.underlying93
  a53 := Tryd.isAgg93
  z53 := Tryd.sizeOf93
  v53 := Tryd.zeroValue93
  t212 := Tryd.underlying143
  a212 := Tryd.isAgg143
  z212 := Tryd.sizeOf143
  v212 := Tryd.zeroValue143
  g17 := by kernel_rfl
  i0 := by kernel_rfl
  i3 := by kernel_rfl
  i4 := by kernel_rfl
  i5 := by kernel_rfl
  i9 := by kernel_rfl
  i46 := by kernel_rfl
  i53 := by kernel_rfl
  i212 := by kernel_rfl
  m17 := by kernel_rfl }
open Go.Lib in
/-- internal/strconv.numDigits, at a d that is not 0: THE NUMBER OF d's DECIMAL DIGITS. The world is as it was. (LAID: no walk: one application.) -/
theorem Tryd.internal_strconv_numDigits (u : Nat) (h1 : 1 ≤ u) (h2 : u < 18446744073709551616) (w : World) (htab : Lib.TabIs Tryd.prog w "internal/strconv.uint64pow10" .u64 Lib.pow10Tab) :
    Calls Tryd.prog 90 #[.int .u64 u] w fun e w' => e = .returned (.int .i64 (Lib.nDigits u)) ∧ w' = w := Any.internal_strconv_numDigits Tryd.laysM284 u h1 h2 w htab
def Tryd.lays285_ren : Go.Shelf.Ren := ⟨fun | 285 => 91 | n => n, fun | 37 => 38 | 53 => 93 | 3 => 3 | 4 => 4 | 51 => 78 | 9 => 9 | 5 => 5 | 0 => 0 | n => n, fun | n => n⟩
theorem Tryd.lays285 : Go.Proofs.Lays.n285 Tryd.prog Tryd.lays285_ren := {
  mixed := by kernel_rfl
  f285 := Tryd.func91.trans (congrArg some (by kernel_rfl))
  t0 := Tryd.underlying0
  a0 := Tryd.isAgg0
  z0 := Tryd.sizeOf0
  v0 := Tryd.zeroValue0
  t3 := Tryd.underlying3
  a3 := Tryd.isAgg3
  z3 := Tryd.sizeOf3
  v3 := Tryd.zeroValue3
  t4 := Tryd.underlying4
  a4 := Tryd.isAgg4
  z4 := Tryd.sizeOf4
  v4 := Tryd.zeroValue4
  t5 := Tryd.underlying5
  a5 := Tryd.isAgg5
  z5 := Tryd.sizeOf5
  v5 := Tryd.zeroValue5
  t9 := Tryd.underlying9
  a9 := Tryd.isAgg9
  z9 := Tryd.sizeOf9
  v9 := Tryd.zeroValue9
  t37 := Tryd.underlying38
  a37 := Tryd.isAgg38
  z37 := Tryd.sizeOf38
  v37 := Tryd.zeroValue38
  t51 := Tryd.underlying78
  a51 := Tryd.isAgg78
  z51 := Tryd.sizeOf78
  v51 := Tryd.zeroValue78
  t53 := Tryd.underlying93
  a53 := Tryd.isAgg93
  z53 := Tryd.sizeOf93
  v53 := Tryd.zeroValue93 }
open Go.RowKit Go.Sort Go.Lib in
/-- internal/strconv.formatBase10: "formatBase10 formats the decimal representation of u into a. The caller is responsible for ensuring that a is big enough to hold u. If a is too big, leading zeros will be filled in as needed.": THE ROW HOLDS u's DIGITS ('FmtInv .. 0 ..': every place t holds 'dg u (len - 1 - t)'); all else is as it was but for the count of draws. (LAID: no walk: one application.) -/
theorem Tryd.internal_strconv_formatBase10 (blk off cap : Nat) (u : Nat) (d : Array UInt8) (w : World) (hH : Holds (fun (b : UInt8) => Value.int .u8 (b.toNat : Int)) w blk off d) (hu : u < 10 ^ d.size) (hu64 : u < 18446744073709551616) (hsz : d.size < 4611686018427387904) :
    Calls Tryd.prog 91 #[.slice (some ⟨blk, off, none⟩) d.size cap, .int .u64 u] w fun e w' =>
      e = .returned (.tuple #[]) ∧ ∃ (n v' : Nat) (dk : Array UInt8), w' = (putRow (fun (b : UInt8) => Value.int .u8 (b.toNat : Int)) w blk off dk).drewN n ∧ FmtInv d.size u 0 v' dk := Any.internal_strconv_formatBase10 Tryd.lays285 blk off cap u d w hH hu hu64 hsz
def Tryd.laysM246_ren : Go.Shelf.Ren := ⟨fun | 246 => 76 | 283 => 89 | 284 => 90 | 285 => 91 | 286 => 92 | 129 => 63 | 317 => 98 | 318 => 99 | 319 => 100 | 320 => 101 | 337 => 102 | 338 => 103 | n => n, fun | 2 => 2 | 3 => 3 | 9 => 9 | 4 => 4 | 171 => 128 | 0 => 0 | 53 => 93 | 37 => 38 | 5 => 5 | 173 => 130 | 212 => 143 | 51 => 78 | 20 => 20 | 213 => 144 | 46 => 67 | 232 => 150 | 233 => 151 | n => n, fun | 17 => 12 | 18 => 13 | 19 => 14 | n => n⟩
theorem Tryd.laysM246 : Go.Proofs.LaysM.n246 Tryd.prog Tryd.laysM246_ren := {
  mixed := by kernel_rfl
  f129 := Tryd.func63.trans (congrArg some (by kernel_rfl))
  f246 := Tryd.func76.trans (congrArg some (by kernel_rfl))
  f283 := Tryd.func89.trans (congrArg some (by kernel_rfl))
  f284 := Tryd.func90.trans (congrArg some (by kernel_rfl))
  f285 := Tryd.func91.trans (congrArg some (by kernel_rfl))
  f286 := Tryd.func92.trans (congrArg some (by kernel_rfl))
  f317 := Tryd.func98.trans (congrArg some (by kernel_rfl))
  f318 := Tryd.func99.trans (congrArg some (by kernel_rfl))
  f319 := Tryd.func100.trans (congrArg some (by kernel_rfl))
  f320 := Tryd.func101.trans (congrArg some (by kernel_rfl))
  f337 := Tryd.func102.trans (congrArg some (by kernel_rfl))
  f338 := Tryd.func103.trans (congrArg some (by kernel_rfl))
  t0 := Tryd.underlying0
  a0 := Tryd.isAgg0
  z0 := Tryd.sizeOf0
  v0 := Tryd.zeroValue0
  t2 := Tryd.underlying2
  a2 := Tryd.isAgg2
  z2 := Tryd.sizeOf2
  v2 := Tryd.zeroValue2
  t3 := Tryd.underlying3
  a3 := Tryd.isAgg3
  z3 := Tryd.sizeOf3
  v3 := Tryd.zeroValue3
  t4 := Tryd.underlying4
  a4 := Tryd.isAgg4
  z4 := Tryd.sizeOf4
  v4 := Tryd.zeroValue4
  t5 := Tryd.underlying5
  a5 := Tryd.isAgg5
  z5 := Tryd.sizeOf5
  v5 := Tryd.zeroValue5
  t9 := Tryd.underlying9
  a9 := Tryd.isAgg9
  z9 := Tryd.sizeOf9
  v9 := Tryd.zeroValue9
  t20 := Tryd.underlying20
  a20 := Tryd.isAgg20
  z20 := Tryd.sizeOf20
  v20 := Tryd.zeroValue20
  t37 := Tryd.underlying38
  a37 := Tryd.isAgg38
  z37 := Tryd.sizeOf38
  v37 := Tryd.zeroValue38
  t46 := Tryd.underlying67
  a46 := Tryd.isAgg67
  z46 := Tryd.sizeOf67
  v46 := Tryd.zeroValue67
  t51 := Tryd.underlying78
  a51 := Tryd.isAgg78
  z51 := Tryd.sizeOf78
  v51 := Tryd.zeroValue78
  t53 := Tryd.underlying93
  a53 := Tryd.isAgg93
  z53 := Tryd.sizeOf93
  v53 := Tryd.zeroValue93
  t171 := Tryd.underlying128
  a171 := Tryd.isAgg128
  z171 := Tryd.sizeOf128
  v171 := Tryd.zeroValue128
  t173 := Tryd.underlying130
  a173 := Tryd.isAgg130
  z173 := Tryd.sizeOf130
  v173 := Tryd.zeroValue130
  t212 := Tryd.underlying143
  a212 := Tryd.isAgg143
  z212 := Tryd.sizeOf143
  v212 := Tryd.zeroValue143
  t213 := Tryd.underlying144
  a213 := Tryd.isAgg144
  z213 := Tryd.sizeOf144
  t232 := Tryd.underlying150
  a232 := Tryd.isAgg150
  z232 := Tryd.sizeOf150
  v232 := Tryd.zeroValue150
  t233 := Tryd.underlying151
  a233 := Tryd.isAgg151
  z233 := Tryd.sizeOf151
  v233 := Tryd.zeroValue151
  g17 := by kernel_rfl
  g18 := by kernel_rfl
  g19 := by kernel_rfl
  i0 := by kernel_rfl
  i2 := by kernel_rfl
  i3 := by kernel_rfl
  i4 := by kernel_rfl
  i5 := by kernel_rfl
  i9 := by kernel_rfl
  i20 := by kernel_rfl
  i37 := by kernel_rfl
  i46 := by kernel_rfl
  i51 := by kernel_rfl
  i53 := by kernel_rfl
  i171 := by kernel_rfl
  i173 := by kernel_rfl
  i212 := by kernel_rfl
  i232 := by kernel_rfl
  i233 := by kernel_rfl
  m17 := by kernel_rfl
  m18 := by kernel_rfl
  m19 := by kernel_rfl }
open Go.RowKit Go.Sort Go.Lib in
/-- internal/strconv.FormatInt: "FormatInt returns the string representation of i in the given base": AT BASE 10: i's decimal numeral, for every int64. The world behind the call: the world before it, new blocks behind the heap, draws. (LAID: no walk: one application.) -/
theorem Tryd.internal_strconv_FormatInt_10 (n : Int) (h0 : -9223372036854775808 ≤ n) (h1 : n ≤ 9223372036854775807) (w : World) (htab : Lib.TabIs Tryd.prog w "internal/strconv.uint64pow10" .u64 Lib.pow10Tab) :
    Calls Tryd.prog 76 #[.int .i64 n, .int .i64 10] w fun e w' => e = .returned (.string ⟨(Lib.itoa n).toArray⟩) ∧ ∃ k os, w' = grow (w.drewN k) os := Any.internal_strconv_FormatInt_10 Tryd.laysM246 n h0 h1 w htab
def Tryd.lays246_ren : Go.Shelf.Ren := ⟨fun | 246 => 76 | 283 => 89 | 284 => 90 | 285 => 91 | 286 => 92 | 129 => 63 | 317 => 98 | 318 => 99 | 319 => 100 | 320 => 101 | 337 => 102 | 338 => 103 | n => n, fun | 2 => 2 | 3 => 3 | 9 => 9 | 4 => 4 | 171 => 128 | 0 => 0 | 53 => 93 | 37 => 38 | 5 => 5 | 173 => 130 | 212 => 143 | 51 => 78 | 20 => 20 | 213 => 144 | 46 => 67 | 232 => 150 | 233 => 151 | n => n, fun | 17 => 12 | 18 => 13 | 19 => 14 | n => n⟩
theorem Tryd.lays246 : Go.Proofs.Lays.n246 Tryd.prog Tryd.lays246_ren := {
  mixed := by kernel_rfl
  f129 := Tryd.func63.trans (congrArg some (by kernel_rfl))
  f246 := Tryd.func76.trans (congrArg some (by kernel_rfl))
  f283 := Tryd.func89.trans (congrArg some (by kernel_rfl))
  f284 := Tryd.func90.trans (congrArg some (by kernel_rfl))
  f285 := Tryd.func91.trans (congrArg some (by kernel_rfl))
  f286 := Tryd.func92.trans (congrArg some (by kernel_rfl))
  f317 := Tryd.func98.trans (congrArg some (by kernel_rfl))
  f318 := Tryd.func99.trans (congrArg some (by kernel_rfl))
  f319 := Tryd.func100.trans (congrArg some (by kernel_rfl))
  f320 := Tryd.func101.trans (congrArg some (by kernel_rfl))
  f337 := Tryd.func102.trans (congrArg some (by kernel_rfl))
  f338 := Tryd.func103.trans (congrArg some (by kernel_rfl))
  t0 := Tryd.underlying0
  a0 := Tryd.isAgg0
  z0 := Tryd.sizeOf0
  v0 := Tryd.zeroValue0
  t2 := Tryd.underlying2
  a2 := Tryd.isAgg2
  z2 := Tryd.sizeOf2
  v2 := Tryd.zeroValue2
  t3 := Tryd.underlying3
  a3 := Tryd.isAgg3
  z3 := Tryd.sizeOf3
  v3 := Tryd.zeroValue3
  t4 := Tryd.underlying4
  a4 := Tryd.isAgg4
  z4 := Tryd.sizeOf4
  v4 := Tryd.zeroValue4
  t5 := Tryd.underlying5
  a5 := Tryd.isAgg5
  z5 := Tryd.sizeOf5
  v5 := Tryd.zeroValue5
  t9 := Tryd.underlying9
  a9 := Tryd.isAgg9
  z9 := Tryd.sizeOf9
  v9 := Tryd.zeroValue9
  t20 := Tryd.underlying20
  a20 := Tryd.isAgg20
  z20 := Tryd.sizeOf20
  v20 := Tryd.zeroValue20
  t37 := Tryd.underlying38
  a37 := Tryd.isAgg38
  z37 := Tryd.sizeOf38
  v37 := Tryd.zeroValue38
  t46 := Tryd.underlying67
  a46 := Tryd.isAgg67
  z46 := Tryd.sizeOf67
  v46 := Tryd.zeroValue67
  t51 := Tryd.underlying78
  a51 := Tryd.isAgg78
  z51 := Tryd.sizeOf78
  v51 := Tryd.zeroValue78
  t53 := Tryd.underlying93
  a53 := Tryd.isAgg93
  z53 := Tryd.sizeOf93
  v53 := Tryd.zeroValue93
  t171 := Tryd.underlying128
  a171 := Tryd.isAgg128
  z171 := Tryd.sizeOf128
  v171 := Tryd.zeroValue128
  t173 := Tryd.underlying130
  a173 := Tryd.isAgg130
  z173 := Tryd.sizeOf130
  v173 := Tryd.zeroValue130
  t212 := Tryd.underlying143
  a212 := Tryd.isAgg143
  z212 := Tryd.sizeOf143
  v212 := Tryd.zeroValue143
  t213 := Tryd.underlying144
  a213 := Tryd.isAgg144
  z213 := Tryd.sizeOf144
  t232 := Tryd.underlying150
  a232 := Tryd.isAgg150
  z232 := Tryd.sizeOf150
  v232 := Tryd.zeroValue150
  t233 := Tryd.underlying151
  a233 := Tryd.isAgg151
  z233 := Tryd.sizeOf151
  v233 := Tryd.zeroValue151
  g17 := by kernel_rfl
  g18 := by kernel_rfl
  g19 := by kernel_rfl }
open Go.RowKit Go.Sort Go.Lib in
/-- THE ROAD WITHOUT THE TABLE: 0 <= i < 100: two constants are read, nothing is laid: no premise on the world, and the world is as it was. (LAID: no walk: one application.) -/
theorem Tryd.internal_strconv_FormatInt_10_small (i : Nat) (hi : i < 100) (w : World) :
    Calls Tryd.prog 76 #[.int .i64 i, .int .i64 10] w fun e w' => e = .returned (.string ⟨(Lib.decDigits i).toArray⟩) ∧ w' = w := Any.internal_strconv_FormatInt_10_small Tryd.lays246 i hi w
def Tryd.laysM243_ren : Go.Shelf.Ren := ⟨fun | 243 => 50 | 246 => 76 | 283 => 89 | 284 => 90 | 285 => 91 | 286 => 92 | 129 => 63 | 317 => 98 | 318 => 99 | 319 => 100 | 320 => 101 | 337 => 102 | 338 => 103 | n => n, fun | 3 => 3 | 9 => 9 | 2 => 2 | 4 => 4 | 171 => 128 | 0 => 0 | 53 => 93 | 37 => 38 | 5 => 5 | 173 => 130 | 212 => 143 | 51 => 78 | 20 => 20 | 213 => 144 | 46 => 67 | 232 => 150 | 233 => 151 | n => n, fun | 17 => 12 | 18 => 13 | 19 => 14 | n => n⟩
theorem Tryd.laysM243 : Go.Proofs.LaysM.n243 Tryd.prog Tryd.laysM243_ren := {
  mixed := by kernel_rfl
  f129 := Tryd.func63.trans (congrArg some (by kernel_rfl))
  f243 := Tryd.func50.trans (congrArg some (by kernel_rfl))
  f246 := Tryd.func76.trans (congrArg some (by kernel_rfl))
  f283 := Tryd.func89.trans (congrArg some (by kernel_rfl))
  f284 := Tryd.func90.trans (congrArg some (by kernel_rfl))
  f285 := Tryd.func91.trans (congrArg some (by kernel_rfl))
  f286 := Tryd.func92.trans (congrArg some (by kernel_rfl))
  f317 := Tryd.func98.trans (congrArg some (by kernel_rfl))
  f318 := Tryd.func99.trans (congrArg some (by kernel_rfl))
  f319 := Tryd.func100.trans (congrArg some (by kernel_rfl))
  f320 := Tryd.func101.trans (congrArg some (by kernel_rfl))
  f337 := Tryd.func102.trans (congrArg some (by kernel_rfl))
  f338 := Tryd.func103.trans (congrArg some (by kernel_rfl))
  t0 := Tryd.underlying0
  a0 := Tryd.isAgg0
  z0 := Tryd.sizeOf0
  v0 := Tryd.zeroValue0
  t2 := Tryd.underlying2
  a2 := Tryd.isAgg2
  z2 := Tryd.sizeOf2
  v2 := Tryd.zeroValue2
  t3 := Tryd.underlying3
  a3 := Tryd.isAgg3
  z3 := Tryd.sizeOf3
  v3 := Tryd.zeroValue3
  t4 := Tryd.underlying4
  a4 := Tryd.isAgg4
  z4 := Tryd.sizeOf4
  v4 := Tryd.zeroValue4
  t5 := Tryd.underlying5
  a5 := Tryd.isAgg5
  z5 := Tryd.sizeOf5
  v5 := Tryd.zeroValue5
  t9 := Tryd.underlying9
  a9 := Tryd.isAgg9
  z9 := Tryd.sizeOf9
  v9 := Tryd.zeroValue9
  t20 := Tryd.underlying20
  a20 := Tryd.isAgg20
  z20 := Tryd.sizeOf20
  v20 := Tryd.zeroValue20
  t37 := Tryd.underlying38
  a37 := Tryd.isAgg38
  z37 := Tryd.sizeOf38
  v37 := Tryd.zeroValue38
  t46 := Tryd.underlying67
  a46 := Tryd.isAgg67
  z46 := Tryd.sizeOf67
  v46 := Tryd.zeroValue67
  t51 := Tryd.underlying78
  a51 := Tryd.isAgg78
  z51 := Tryd.sizeOf78
  v51 := Tryd.zeroValue78
  t53 := Tryd.underlying93
  a53 := Tryd.isAgg93
  z53 := Tryd.sizeOf93
  v53 := Tryd.zeroValue93
  t171 := Tryd.underlying128
  a171 := Tryd.isAgg128
  z171 := Tryd.sizeOf128
  v171 := Tryd.zeroValue128
  t173 := Tryd.underlying130
  a173 := Tryd.isAgg130
  z173 := Tryd.sizeOf130
  v173 := Tryd.zeroValue130
  t212 := Tryd.underlying143
  a212 := Tryd.isAgg143
  z212 := Tryd.sizeOf143
  v212 := Tryd.zeroValue143
  t213 := Tryd.underlying144
  a213 := Tryd.isAgg144
  z213 := Tryd.sizeOf144
  t232 := Tryd.underlying150
  a232 := Tryd.isAgg150
  z232 := Tryd.sizeOf150
  v232 := Tryd.zeroValue150
  t233 := Tryd.underlying151
  a233 := Tryd.isAgg151
  z233 := Tryd.sizeOf151
  v233 := Tryd.zeroValue151
  g17 := by kernel_rfl
  g18 := by kernel_rfl
  g19 := by kernel_rfl
  i0 := by kernel_rfl
  i2 := by kernel_rfl
  i3 := by kernel_rfl
  i4 := by kernel_rfl
  i5 := by kernel_rfl
  i9 := by kernel_rfl
  i20 := by kernel_rfl
  i37 := by kernel_rfl
  i46 := by kernel_rfl
  i51 := by kernel_rfl
  i53 := by kernel_rfl
  i171 := by kernel_rfl
  i173 := by kernel_rfl
  i212 := by kernel_rfl
  i232 := by kernel_rfl
  i233 := by kernel_rfl
  m17 := by kernel_rfl
  m18 := by kernel_rfl
  m19 := by kernel_rfl }
open Go.RowKit Go.Sort Go.Lib in
/-- internal/strconv.Itoa: "Itoa is equivalent to FormatInt(int64(i), 10).": i's decimal numeral, for every int. (LAID: no walk: one application.) -/
theorem Tryd.internal_strconv_Itoa (n : Int) (h0 : -9223372036854775808 ≤ n) (h1 : n ≤ 9223372036854775807) (w : World) (htab : Lib.TabIs Tryd.prog w "internal/strconv.uint64pow10" .u64 Lib.pow10Tab) :
    Calls Tryd.prog 50 #[.int .i64 n] w fun e w' => e = .returned (.string ⟨(Lib.itoa n).toArray⟩) ∧ ∃ k os, w' = grow (w.drewN k) os := Any.internal_strconv_Itoa Tryd.laysM243 n h0 h1 w htab
def Tryd.lays243_ren : Go.Shelf.Ren := ⟨fun | 243 => 50 | 246 => 76 | 283 => 89 | 284 => 90 | 285 => 91 | 286 => 92 | 129 => 63 | 317 => 98 | 318 => 99 | 319 => 100 | 320 => 101 | 337 => 102 | 338 => 103 | n => n, fun | 3 => 3 | 9 => 9 | 2 => 2 | 4 => 4 | 171 => 128 | 0 => 0 | 53 => 93 | 37 => 38 | 5 => 5 | 173 => 130 | 212 => 143 | 51 => 78 | 20 => 20 | 213 => 144 | 46 => 67 | 232 => 150 | 233 => 151 | n => n, fun | 17 => 12 | 18 => 13 | 19 => 14 | n => n⟩
theorem Tryd.lays243 : Go.Proofs.Lays.n243 Tryd.prog Tryd.lays243_ren := {
  mixed := by kernel_rfl
  f129 := Tryd.func63.trans (congrArg some (by kernel_rfl))
  f243 := Tryd.func50.trans (congrArg some (by kernel_rfl))
  f246 := Tryd.func76.trans (congrArg some (by kernel_rfl))
  f283 := Tryd.func89.trans (congrArg some (by kernel_rfl))
  f284 := Tryd.func90.trans (congrArg some (by kernel_rfl))
  f285 := Tryd.func91.trans (congrArg some (by kernel_rfl))
  f286 := Tryd.func92.trans (congrArg some (by kernel_rfl))
  f317 := Tryd.func98.trans (congrArg some (by kernel_rfl))
  f318 := Tryd.func99.trans (congrArg some (by kernel_rfl))
  f319 := Tryd.func100.trans (congrArg some (by kernel_rfl))
  f320 := Tryd.func101.trans (congrArg some (by kernel_rfl))
  f337 := Tryd.func102.trans (congrArg some (by kernel_rfl))
  f338 := Tryd.func103.trans (congrArg some (by kernel_rfl))
  t0 := Tryd.underlying0
  a0 := Tryd.isAgg0
  z0 := Tryd.sizeOf0
  v0 := Tryd.zeroValue0
  t2 := Tryd.underlying2
  a2 := Tryd.isAgg2
  z2 := Tryd.sizeOf2
  v2 := Tryd.zeroValue2
  t3 := Tryd.underlying3
  a3 := Tryd.isAgg3
  z3 := Tryd.sizeOf3
  v3 := Tryd.zeroValue3
  t4 := Tryd.underlying4
  a4 := Tryd.isAgg4
  z4 := Tryd.sizeOf4
  v4 := Tryd.zeroValue4
  t5 := Tryd.underlying5
  a5 := Tryd.isAgg5
  z5 := Tryd.sizeOf5
  v5 := Tryd.zeroValue5
  t9 := Tryd.underlying9
  a9 := Tryd.isAgg9
  z9 := Tryd.sizeOf9
  v9 := Tryd.zeroValue9
  t20 := Tryd.underlying20
  a20 := Tryd.isAgg20
  z20 := Tryd.sizeOf20
  v20 := Tryd.zeroValue20
  t37 := Tryd.underlying38
  a37 := Tryd.isAgg38
  z37 := Tryd.sizeOf38
  v37 := Tryd.zeroValue38
  t46 := Tryd.underlying67
  a46 := Tryd.isAgg67
  z46 := Tryd.sizeOf67
  v46 := Tryd.zeroValue67
  t51 := Tryd.underlying78
  a51 := Tryd.isAgg78
  z51 := Tryd.sizeOf78
  v51 := Tryd.zeroValue78
  t53 := Tryd.underlying93
  a53 := Tryd.isAgg93
  z53 := Tryd.sizeOf93
  v53 := Tryd.zeroValue93
  t171 := Tryd.underlying128
  a171 := Tryd.isAgg128
  z171 := Tryd.sizeOf128
  v171 := Tryd.zeroValue128
  t173 := Tryd.underlying130
  a173 := Tryd.isAgg130
  z173 := Tryd.sizeOf130
  v173 := Tryd.zeroValue130
  t212 := Tryd.underlying143
  a212 := Tryd.isAgg143
  z212 := Tryd.sizeOf143
  v212 := Tryd.zeroValue143
  t213 := Tryd.underlying144
  a213 := Tryd.isAgg144
  z213 := Tryd.sizeOf144
  t232 := Tryd.underlying150
  a232 := Tryd.isAgg150
  z232 := Tryd.sizeOf150
  v232 := Tryd.zeroValue150
  t233 := Tryd.underlying151
  a233 := Tryd.isAgg151
  z233 := Tryd.sizeOf151
  v233 := Tryd.zeroValue151
  g17 := by kernel_rfl
  g18 := by kernel_rfl
  g19 := by kernel_rfl }
open Go.RowKit Go.Sort Go.Lib in
/-- THE ROAD WITHOUT THE TABLE: 0 <= i < 100. (LAID: no walk: one application.) -/
theorem Tryd.internal_strconv_Itoa_small (i : Nat) (hi : i < 100) (w : World) :
    Calls Tryd.prog 50 #[.int .i64 i] w fun e w' => e = .returned (.string ⟨(Lib.decDigits i).toArray⟩) ∧ w' = w := Any.internal_strconv_Itoa_small Tryd.lays243 i hi w
def Tryd.laysM171_ren : Go.Shelf.Ren := ⟨fun | 171 => 32 | 243 => 50 | 246 => 76 | 283 => 89 | 284 => 90 | 285 => 91 | 286 => 92 | 129 => 63 | 317 => 98 | 318 => 99 | 319 => 100 | 320 => 101 | 337 => 102 | 338 => 103 | n => n, fun | 3 => 3 | 9 => 9 | 2 => 2 | 4 => 4 | 171 => 128 | 0 => 0 | 53 => 93 | 37 => 38 | 5 => 5 | 173 => 130 | 212 => 143 | 51 => 78 | 20 => 20 | 213 => 144 | 46 => 67 | 232 => 150 | 233 => 151 | n => n, fun | 17 => 12 | 18 => 13 | 19 => 14 | n => n⟩
theorem Tryd.laysM171 : Go.Proofs.LaysM.n171 Tryd.prog Tryd.laysM171_ren := {
  mixed := by kernel_rfl
  f129 := Tryd.func63.trans (congrArg some (by kernel_rfl))
  f171 := Tryd.func32.trans (congrArg some (by kernel_rfl))
  f243 := Tryd.func50.trans (congrArg some (by kernel_rfl))
  f246 := Tryd.func76.trans (congrArg some (by kernel_rfl))
  f283 := Tryd.func89.trans (congrArg some (by kernel_rfl))
  f284 := Tryd.func90.trans (congrArg some (by kernel_rfl))
  f285 := Tryd.func91.trans (congrArg some (by kernel_rfl))
  f286 := Tryd.func92.trans (congrArg some (by kernel_rfl))
  f317 := Tryd.func98.trans (congrArg some (by kernel_rfl))
  f318 := Tryd.func99.trans (congrArg some (by kernel_rfl))
  f319 := Tryd.func100.trans (congrArg some (by kernel_rfl))
  f320 := Tryd.func101.trans (congrArg some (by kernel_rfl))
  f337 := Tryd.func102.trans (congrArg some (by kernel_rfl))
  f338 := Tryd.func103.trans (congrArg some (by kernel_rfl))
  t0 := Tryd.underlying0
  a0 := Tryd.isAgg0
  z0 := Tryd.sizeOf0
  v0 := Tryd.zeroValue0
  t2 := Tryd.underlying2
  a2 := Tryd.isAgg2
  z2 := Tryd.sizeOf2
  v2 := Tryd.zeroValue2
  t3 := Tryd.underlying3
  a3 := Tryd.isAgg3
  z3 := Tryd.sizeOf3
  v3 := Tryd.zeroValue3
  t4 := Tryd.underlying4
  a4 := Tryd.isAgg4
  z4 := Tryd.sizeOf4
  v4 := Tryd.zeroValue4
  t5 := Tryd.underlying5
  a5 := Tryd.isAgg5
  z5 := Tryd.sizeOf5
  v5 := Tryd.zeroValue5
  t9 := Tryd.underlying9
  a9 := Tryd.isAgg9
  z9 := Tryd.sizeOf9
  v9 := Tryd.zeroValue9
  t20 := Tryd.underlying20
  a20 := Tryd.isAgg20
  z20 := Tryd.sizeOf20
  v20 := Tryd.zeroValue20
  t37 := Tryd.underlying38
  a37 := Tryd.isAgg38
  z37 := Tryd.sizeOf38
  v37 := Tryd.zeroValue38
  t46 := Tryd.underlying67
  a46 := Tryd.isAgg67
  z46 := Tryd.sizeOf67
  v46 := Tryd.zeroValue67
  t51 := Tryd.underlying78
  a51 := Tryd.isAgg78
  z51 := Tryd.sizeOf78
  v51 := Tryd.zeroValue78
  t53 := Tryd.underlying93
  a53 := Tryd.isAgg93
  z53 := Tryd.sizeOf93
  v53 := Tryd.zeroValue93
  t171 := Tryd.underlying128
  a171 := Tryd.isAgg128
  z171 := Tryd.sizeOf128
  v171 := Tryd.zeroValue128
  t173 := Tryd.underlying130
  a173 := Tryd.isAgg130
  z173 := Tryd.sizeOf130
  v173 := Tryd.zeroValue130
  t212 := Tryd.underlying143
  a212 := Tryd.isAgg143
  z212 := Tryd.sizeOf143
  v212 := Tryd.zeroValue143
  t213 := Tryd.underlying144
  a213 := Tryd.isAgg144
  z213 := Tryd.sizeOf144
  t232 := Tryd.underlying150
  a232 := Tryd.isAgg150
  z232 := Tryd.sizeOf150
  v232 := Tryd.zeroValue150
  t233 := Tryd.underlying151
  a233 := Tryd.isAgg151
  z233 := Tryd.sizeOf151
  v233 := Tryd.zeroValue151
  g17 := by kernel_rfl
  g18 := by kernel_rfl
  g19 := by kernel_rfl
  i0 := by kernel_rfl
  i2 := by kernel_rfl
  i3 := by kernel_rfl
  i4 := by kernel_rfl
  i5 := by kernel_rfl
  i9 := by kernel_rfl
  i20 := by kernel_rfl
  i37 := by kernel_rfl
  i46 := by kernel_rfl
  i51 := by kernel_rfl
  i53 := by kernel_rfl
  i171 := by kernel_rfl
  i173 := by kernel_rfl
  i212 := by kernel_rfl
  i232 := by kernel_rfl
  i233 := by kernel_rfl
  m17 := by kernel_rfl
  m18 := by kernel_rfl
  m19 := by kernel_rfl }
open Go.RowKit Go.Sort Go.Lib in
/-- strconv.Itoa: "Itoa is equivalent to FormatInt(int64(i), 10).": i's DECIMAL NUMERAL ('Lib.itoa': a '-' where i is negative, then the digits), FOR EVERY int. The world behind the call: the world before it, new blocks behind the heap (the library's 'var a [24]byte'), draws. (LAID: no walk: one application.) -/
theorem Tryd.strconv_Itoa (n : Int) (h0 : -9223372036854775808 ≤ n) (h1 : n ≤ 9223372036854775807) (w : World) (htab : Lib.TabIs Tryd.prog w "internal/strconv.uint64pow10" .u64 Lib.pow10Tab) :
    Calls Tryd.prog 32 #[.int .i64 n] w fun e w' => e = .returned (.string ⟨(Lib.itoa n).toArray⟩) ∧ ∃ k os, w' = grow (w.drewN k) os := Any.strconv_Itoa Tryd.laysM171 n h0 h1 w htab
def Tryd.lays171_ren : Go.Shelf.Ren := ⟨fun | 171 => 32 | 243 => 50 | 246 => 76 | 283 => 89 | 284 => 90 | 285 => 91 | 286 => 92 | 129 => 63 | 317 => 98 | 318 => 99 | 319 => 100 | 320 => 101 | 337 => 102 | 338 => 103 | n => n, fun | 3 => 3 | 9 => 9 | 2 => 2 | 4 => 4 | 171 => 128 | 0 => 0 | 53 => 93 | 37 => 38 | 5 => 5 | 173 => 130 | 212 => 143 | 51 => 78 | 20 => 20 | 213 => 144 | 46 => 67 | 232 => 150 | 233 => 151 | n => n, fun | 17 => 12 | 18 => 13 | 19 => 14 | n => n⟩
theorem Tryd.lays171 : Go.Proofs.Lays.n171 Tryd.prog Tryd.lays171_ren := {
  mixed := by kernel_rfl
  f129 := Tryd.func63.trans (congrArg some (by kernel_rfl))
  f171 := Tryd.func32.trans (congrArg some (by kernel_rfl))
  f243 := Tryd.func50.trans (congrArg some (by kernel_rfl))
  f246 := Tryd.func76.trans (congrArg some (by kernel_rfl))
  f283 := Tryd.func89.trans (congrArg some (by kernel_rfl))
  f284 := Tryd.func90.trans (congrArg some (by kernel_rfl))
  f285 := Tryd.func91.trans (congrArg some (by kernel_rfl))
  f286 := Tryd.func92.trans (congrArg some (by kernel_rfl))
  f317 := Tryd.func98.trans (congrArg some (by kernel_rfl))
  f318 := Tryd.func99.trans (congrArg some (by kernel_rfl))
  f319 := Tryd.func100.trans (congrArg some (by kernel_rfl))
  f320 := Tryd.func101.trans (congrArg some (by kernel_rfl))
  f337 := Tryd.func102.trans (congrArg some (by kernel_rfl))
  f338 := Tryd.func103.trans (congrArg some (by kernel_rfl))
  t0 := Tryd.underlying0
  a0 := Tryd.isAgg0
  z0 := Tryd.sizeOf0
  v0 := Tryd.zeroValue0
  t2 := Tryd.underlying2
  a2 := Tryd.isAgg2
  z2 := Tryd.sizeOf2
  v2 := Tryd.zeroValue2
  t3 := Tryd.underlying3
  a3 := Tryd.isAgg3
  z3 := Tryd.sizeOf3
  v3 := Tryd.zeroValue3
  t4 := Tryd.underlying4
  a4 := Tryd.isAgg4
  z4 := Tryd.sizeOf4
  v4 := Tryd.zeroValue4
  t5 := Tryd.underlying5
  a5 := Tryd.isAgg5
  z5 := Tryd.sizeOf5
  v5 := Tryd.zeroValue5
  t9 := Tryd.underlying9
  a9 := Tryd.isAgg9
  z9 := Tryd.sizeOf9
  v9 := Tryd.zeroValue9
  t20 := Tryd.underlying20
  a20 := Tryd.isAgg20
  z20 := Tryd.sizeOf20
  v20 := Tryd.zeroValue20
  t37 := Tryd.underlying38
  a37 := Tryd.isAgg38
  z37 := Tryd.sizeOf38
  v37 := Tryd.zeroValue38
  t46 := Tryd.underlying67
  a46 := Tryd.isAgg67
  z46 := Tryd.sizeOf67
  v46 := Tryd.zeroValue67
  t51 := Tryd.underlying78
  a51 := Tryd.isAgg78
  z51 := Tryd.sizeOf78
  v51 := Tryd.zeroValue78
  t53 := Tryd.underlying93
  a53 := Tryd.isAgg93
  z53 := Tryd.sizeOf93
  v53 := Tryd.zeroValue93
  t171 := Tryd.underlying128
  a171 := Tryd.isAgg128
  z171 := Tryd.sizeOf128
  v171 := Tryd.zeroValue128
  t173 := Tryd.underlying130
  a173 := Tryd.isAgg130
  z173 := Tryd.sizeOf130
  v173 := Tryd.zeroValue130
  t212 := Tryd.underlying143
  a212 := Tryd.isAgg143
  z212 := Tryd.sizeOf143
  v212 := Tryd.zeroValue143
  t213 := Tryd.underlying144
  a213 := Tryd.isAgg144
  z213 := Tryd.sizeOf144
  t232 := Tryd.underlying150
  a232 := Tryd.isAgg150
  z232 := Tryd.sizeOf150
  v232 := Tryd.zeroValue150
  t233 := Tryd.underlying151
  a233 := Tryd.isAgg151
  z233 := Tryd.sizeOf151
  v233 := Tryd.zeroValue151
  g17 := by kernel_rfl
  g18 := by kernel_rfl
  g19 := by kernel_rfl }
open Go.RowKit Go.Sort Go.Lib in
/-- THE ROAD WITHOUT THE TABLE: 0 <= i < 100: NO PREMISE ON THE WORLD, AND THE WORLD IS AS IT WAS: a row that keeps its argument in that range need list no table ('laid = []'). (LAID: no walk: one application.) -/
theorem Tryd.strconv_Itoa_small (i : Nat) (hi : i < 100) (w : World) :
    Calls Tryd.prog 32 #[.int .i64 i] w fun e w' => e = .returned (.string ⟨(Lib.decDigits i).toArray⟩) ∧ w' = w := Any.strconv_Itoa_small Tryd.lays171 i hi w
def Tryd.lays206_ren : Go.Shelf.Ren := ⟨fun | 206 => 83 | n => n, fun | 9 => 9 | 4 => 4 | 3 => 3 | n => n, fun | n => n⟩
theorem Tryd.lays206 : Go.Proofs.Lays.n206 Tryd.prog Tryd.lays206_ren := {
  mixed := by kernel_rfl
  f206 := Tryd.func83.trans (congrArg some (by kernel_rfl))
  t3 := Tryd.underlying3
  a3 := Tryd.isAgg3
  z3 := Tryd.sizeOf3
  v3 := Tryd.zeroValue3
  t4 := Tryd.underlying4
  a4 := Tryd.isAgg4
  z4 := Tryd.sizeOf4
  v4 := Tryd.zeroValue4
  t9 := Tryd.underlying9
  a9 := Tryd.isAgg9
  z9 := Tryd.sizeOf9
  v9 := Tryd.zeroValue9 }
open Go.RowKit Go.Lib in
/-- internal/stringslite.HasPrefix (what strings.HasPrefix calls). (LAID: no walk: one application.) -/
theorem Tryd.stringslite_HasPrefix (s p : ByteArray) (w : World) :
    Calls Tryd.prog 83 #[.string s, .string p] w fun e w' => e = .returned (.bool (Lib.hasPrefix s.data.toList p.data.toList)) ∧ w' = w := Any.stringslite_HasPrefix Tryd.lays206 s p w
def Tryd.lays199_ren : Go.Shelf.Ren := ⟨fun | 199 => 29 | 261 => 49 | 311 => 74 | 312 => 75 | n => n, fun | 21 => 21 | 4 => 4 | 51 => 78 | 141 => 80 | 0 => 0 | 196 => 103 | 193 => 100 | 3 => 3 | 198 => 106 | 49 => 104 | 194 => 101 | 201 => 109 | 226 => 126 | 46 => 67 | 227 => 127 | n => n, fun | 6 => 7 | n => n⟩
theorem Tryd.lays199 : Go.Proofs.Lays.n199 Tryd.prog Tryd.lays199_ren := {
  mixed := by kernel_rfl
  f199 := Tryd.func29.trans (congrArg some (by kernel_rfl))
  f261 := Tryd.func49.trans (congrArg some (by kernel_rfl))
  f311 := Tryd.func74.trans (congrArg some (by kernel_rfl))
  f312 := Tryd.func75.trans (congrArg some (by kernel_rfl))
  t0 := Tryd.underlying0
  a0 := Tryd.isAgg0
  z0 := Tryd.sizeOf0
  v0 := Tryd.zeroValue0
  t3 := Tryd.underlying3
  a3 := Tryd.isAgg3
  z3 := Tryd.sizeOf3
  v3 := Tryd.zeroValue3
  t4 := Tryd.underlying4
  a4 := Tryd.isAgg4
  z4 := Tryd.sizeOf4
  v4 := Tryd.zeroValue4
  t21 := Tryd.underlying21
  a21 := Tryd.isAgg21
  z21 := Tryd.sizeOf21
  v21 := Tryd.zeroValue21
  t46 := Tryd.underlying67
  a46 := Tryd.isAgg67
  z46 := Tryd.sizeOf67
  v46 := Tryd.zeroValue67
  t49 := Tryd.underlying104
  a49 := Tryd.isAgg104
  z49 := Tryd.sizeOf104
  v49 := Tryd.zeroValue104
  t51 := Tryd.underlying78
  a51 := Tryd.isAgg78
  z51 := Tryd.sizeOf78
  v51 := Tryd.zeroValue78
  t141 := Tryd.underlying80
  a141 := Tryd.isAgg80
  z141 := Tryd.sizeOf80
  v141 := Tryd.zeroValue80
  t193 := Tryd.underlying100
  a193 := Tryd.isAgg100
  z193 := Tryd.sizeOf100
  v193 := Tryd.zeroValue100
  t194 := Tryd.underlying101
  a194 := Tryd.isAgg101
  z194 := Tryd.sizeOf101
  v194 := Tryd.zeroValue101
  t196 := Tryd.underlying103
  a196 := Tryd.isAgg103
  z196 := Tryd.sizeOf103
  v196 := Tryd.zeroValue103
  t198 := Tryd.underlying106
  a198 := Tryd.isAgg106
  z198 := Tryd.sizeOf106
  v198 := Tryd.zeroValue106
  t201 := Tryd.underlying109
  a201 := Tryd.isAgg109
  z201 := Tryd.sizeOf109
  v201 := Tryd.zeroValue109
  t226 := Tryd.underlying126
  a226 := Tryd.isAgg126
  z226 := Tryd.sizeOf126
  v226 := Tryd.zeroValue126
  t227 := Tryd.underlying127
  a227 := Tryd.isAgg127
  z227 := Tryd.sizeOf127
  v227 := Tryd.zeroValue127
  g6 := by kernel_rfl }
open Go.RowKit Go.Lib in
theorem Tryd.unicode_IsSpace (r : Int) (w : World) (h0 : 0 ≤ r) (h : r ≤ 255) :
    Calls Tryd.prog 29 #[.int .i32 r] w fun e w' => e = .returned (.bool (Lib.isSpaceL r)) ∧ w' = w := Any.unicode_IsSpace Tryd.lays199 r w h0 h
def Tryd.lays204_ren : Go.Shelf.Ren := ⟨fun | 204 => 47 | 262 => 73 | 313 => 88 | 274 => 96 | 275 => 97 | n => n, fun | 21 => 21 | 4 => 4 | 3 => 3 | 162 => 125 | 203 => 123 | 160 => 138 | 46 => 67 | 0 => 0 | 208 => 149 | 51 => 78 | 206 => 147 | n => n, fun | 13 => 8 | n => n⟩
theorem Tryd.lays204 : Go.Proofs.Lays.n204 Tryd.prog Tryd.lays204_ren := {
  mixed := by kernel_rfl
  f204 := Tryd.func47.trans (congrArg some (by kernel_rfl))
  f262 := Tryd.func73.trans (congrArg some (by kernel_rfl))
  f274 := Tryd.func96.trans (congrArg some (by kernel_rfl))
  f275 := Tryd.func97.trans (congrArg some (by kernel_rfl))
  f313 := Tryd.func88.trans (congrArg some (by kernel_rfl))
  t0 := Tryd.underlying0
  a0 := Tryd.isAgg0
  z0 := Tryd.sizeOf0
  v0 := Tryd.zeroValue0
  t3 := Tryd.underlying3
  a3 := Tryd.isAgg3
  z3 := Tryd.sizeOf3
  v3 := Tryd.zeroValue3
  t4 := Tryd.underlying4
  a4 := Tryd.isAgg4
  z4 := Tryd.sizeOf4
  v4 := Tryd.zeroValue4
  t21 := Tryd.underlying21
  a21 := Tryd.isAgg21
  z21 := Tryd.sizeOf21
  v21 := Tryd.zeroValue21
  t46 := Tryd.underlying67
  a46 := Tryd.isAgg67
  z46 := Tryd.sizeOf67
  v46 := Tryd.zeroValue67
  t51 := Tryd.underlying78
  a51 := Tryd.isAgg78
  z51 := Tryd.sizeOf78
  v51 := Tryd.zeroValue78
  t160 := Tryd.underlying138
  a160 := Tryd.isAgg138
  z160 := Tryd.sizeOf138
  v160 := Tryd.zeroValue138
  t162 := Tryd.underlying125
  a162 := Tryd.isAgg125
  z162 := Tryd.sizeOf125
  v162 := Tryd.zeroValue125
  t203 := Tryd.underlying123
  a203 := Tryd.isAgg123
  z203 := Tryd.sizeOf123
  v203 := Tryd.zeroValue123
  t206 := Tryd.underlying147
  a206 := Tryd.isAgg147
  z206 := Tryd.sizeOf147
  v206 := Tryd.zeroValue147
  t208 := Tryd.underlying149
  a208 := Tryd.isAgg149
  z208 := Tryd.sizeOf149
  v208 := Tryd.zeroValue149
  g13 := by kernel_rfl }
open Go.RowKit Go.Lib in
theorem Tryd.unicode_ToLower (r : Int) (w : World) (h : r ≤ 127) :
    Calls Tryd.prog 47 #[.int .i32 r] w fun e w' => e = .returned (.int .i32 (Lib.toLowerR r)) ∧ w' = w := Any.unicode_ToLower Tryd.lays204 r w h
def Tryd.lays197_ren : Go.Shelf.Ren := ⟨fun | 197 => 68 | 260 => 85 | n => n, fun | 9 => 9 | 21 => 21 | 3 => 3 | 4 => 4 | 5 => 5 | 105 => 94 | 119 => 72 | 0 => 0 | 46 => 67 | 139 => 137 | 138 => 136 | n => n, fun | 3 => 9 | 4 => 10 | n => n⟩
theorem Tryd.lays197 : Go.Proofs.Lays.n197 Tryd.prog Tryd.lays197_ren := {
  mixed := by kernel_rfl
  f197 := Tryd.func68.trans (congrArg some (by kernel_rfl))
  f260 := Tryd.func85.trans (congrArg some (by kernel_rfl))
  t0 := Tryd.underlying0
  a0 := Tryd.isAgg0
  z0 := Tryd.sizeOf0
  v0 := Tryd.zeroValue0
  t3 := Tryd.underlying3
  a3 := Tryd.isAgg3
  z3 := Tryd.sizeOf3
  v3 := Tryd.zeroValue3
  t4 := Tryd.underlying4
  a4 := Tryd.isAgg4
  z4 := Tryd.sizeOf4
  v4 := Tryd.zeroValue4
  t5 := Tryd.underlying5
  a5 := Tryd.isAgg5
  z5 := Tryd.sizeOf5
  v5 := Tryd.zeroValue5
  t9 := Tryd.underlying9
  a9 := Tryd.isAgg9
  z9 := Tryd.sizeOf9
  v9 := Tryd.zeroValue9
  t21 := Tryd.underlying21
  a21 := Tryd.isAgg21
  z21 := Tryd.sizeOf21
  v21 := Tryd.zeroValue21
  t46 := Tryd.underlying67
  a46 := Tryd.isAgg67
  z46 := Tryd.sizeOf67
  v46 := Tryd.zeroValue67
  t105 := Tryd.underlying94
  a105 := Tryd.isAgg94
  z105 := Tryd.sizeOf94
  v105 := Tryd.zeroValue94
  t119 := Tryd.underlying72
  a119 := Tryd.isAgg72
  z119 := Tryd.sizeOf72
  t138 := Tryd.underlying136
  a138 := Tryd.isAgg136
  z138 := Tryd.sizeOf136
  v138 := Tryd.zeroValue136
  t139 := Tryd.underlying137
  a139 := Tryd.isAgg137
  z139 := Tryd.sizeOf137
  v139 := Tryd.zeroValue137
  g3 := by kernel_rfl
  g4 := by kernel_rfl }
open Go.RowKit Go.Lib in
/-- unicode/utf8.DecodeRuneInString: "DecodeRuneInString is like DecodeRune but its input is a string.": ("DecodeRune unpacks the first UTF-8 encoding in p and returns the rune and its width in bytes."): WHERE s BEGINS WITH AN ASCII BYTE x: (x, 1). (LAID: no walk: one application.) -/
theorem Tryd.utf8_DecodeRuneInString_ascii (s : ByteArray) (x : UInt8) (w : World) (h0 : s.data.toList[0]? = some x) (hx : x.toNat < 128) :
    Calls Tryd.prog 68 #[.string s] w fun e w' => e = .returned (.tuple #[.int .i32 x.toNat, .int .i64 1]) ∧ w' = w := Any.utf8_DecodeRuneInString_ascii Tryd.lays197 s x w h0 hx
def Tryd.lays260_ren : Go.Shelf.Ren := ⟨fun | 260 => 85 | n => n, fun | 9 => 9 | 21 => 21 | 3 => 3 | 4 => 4 | 5 => 5 | 119 => 72 | 0 => 0 | 46 => 67 | 139 => 137 | 138 => 136 | n => n, fun | 3 => 9 | 4 => 10 | n => n⟩
theorem Tryd.lays260 : Go.Proofs.Lays.n260 Tryd.prog Tryd.lays260_ren := {
  mixed := by kernel_rfl
  f260 := Tryd.func85.trans (congrArg some (by kernel_rfl))
  t0 := Tryd.underlying0
  a0 := Tryd.isAgg0
  z0 := Tryd.sizeOf0
  v0 := Tryd.zeroValue0
  t3 := Tryd.underlying3
  a3 := Tryd.isAgg3
  z3 := Tryd.sizeOf3
  v3 := Tryd.zeroValue3
  t4 := Tryd.underlying4
  a4 := Tryd.isAgg4
  z4 := Tryd.sizeOf4
  v4 := Tryd.zeroValue4
  t5 := Tryd.underlying5
  a5 := Tryd.isAgg5
  z5 := Tryd.sizeOf5
  v5 := Tryd.zeroValue5
  t9 := Tryd.underlying9
  a9 := Tryd.isAgg9
  z9 := Tryd.sizeOf9
  v9 := Tryd.zeroValue9
  t21 := Tryd.underlying21
  a21 := Tryd.isAgg21
  z21 := Tryd.sizeOf21
  v21 := Tryd.zeroValue21
  t46 := Tryd.underlying67
  a46 := Tryd.isAgg67
  z46 := Tryd.sizeOf67
  v46 := Tryd.zeroValue67
  t119 := Tryd.underlying72
  a119 := Tryd.isAgg72
  z119 := Tryd.sizeOf72
  t138 := Tryd.underlying136
  a138 := Tryd.isAgg136
  z138 := Tryd.sizeOf136
  v138 := Tryd.zeroValue136
  t139 := Tryd.underlying137
  a139 := Tryd.isAgg137
  z139 := Tryd.sizeOf137
  v139 := Tryd.zeroValue137
  g3 := by kernel_rfl
  g4 := by kernel_rfl }
open Go.RowKit Go.Lib in
theorem Tryd.utf8_decodeRuneInStringSlow (s : ByteArray) (w : World) (hT : Lib.Utf8Tabs 9 10 w) :
    Calls Tryd.prog 85 #[.string s] w fun e w' => e = .returned (.tuple #[.int .i32 (Lib.decodeGo s).1, .int .i64 (Lib.decodeGo s).2]) ∧ Below w.heap.size w w' := Any.utf8_decodeRuneInStringSlow Tryd.lays260 s w hT
open Go.RowKit Go.Lib in
/-- **unicode/utf8.DecodeRuneInString AT EVERY STRING.** (LAID: no walk: one application.) -/
theorem Tryd.utf8_DecodeRuneInString (s : ByteArray) (w : World) (hT : Lib.Utf8Tabs 9 10 w) :
    Calls Tryd.prog 68 #[.string s] w fun e w' => e = .returned (.tuple #[.int .i32 (Lib.decodeGo s).1, .int .i64 (Lib.decodeGo s).2]) ∧ Below w.heap.size w w' := Any.utf8_DecodeRuneInString Tryd.lays197 s w hT
def Tryd.lays311_ren : Go.Shelf.Ren := ⟨fun | 311 => 74 | n => n, fun | 193 => 100 | 49 => 104 | 4 => 4 | 3 => 3 | 0 => 0 | 226 => 126 | 198 => 106 | 46 => 67 | n => n, fun | n => n⟩
theorem Tryd.lays311 : Go.Proofs.Lays.n311 Tryd.prog Tryd.lays311_ren := {
  mixed := by kernel_rfl
  f311 := Tryd.func74.trans (congrArg some (by kernel_rfl))
  t0 := Tryd.underlying0
  a0 := Tryd.isAgg0
  z0 := Tryd.sizeOf0
  v0 := Tryd.zeroValue0
  t3 := Tryd.underlying3
  a3 := Tryd.isAgg3
  z3 := Tryd.sizeOf3
  v3 := Tryd.zeroValue3
  t4 := Tryd.underlying4
  a4 := Tryd.isAgg4
  z4 := Tryd.sizeOf4
  v4 := Tryd.zeroValue4
  t46 := Tryd.underlying67
  a46 := Tryd.isAgg67
  z46 := Tryd.sizeOf67
  v46 := Tryd.zeroValue67
  t49 := Tryd.underlying104
  a49 := Tryd.isAgg104
  z49 := Tryd.sizeOf104
  v49 := Tryd.zeroValue104
  t193 := Tryd.underlying100
  a193 := Tryd.isAgg100
  z193 := Tryd.sizeOf100
  v193 := Tryd.zeroValue100
  t198 := Tryd.underlying106
  a198 := Tryd.isAgg106
  z198 := Tryd.sizeOf106
  v198 := Tryd.zeroValue106
  t226 := Tryd.underlying126
  a226 := Tryd.isAgg126
  z226 := Tryd.sizeOf126
  v226 := Tryd.zeroValue126 }
open Go.RowKit Go.Lib in
theorem Tryd.unicode_is16_white (R oR : Nat) (z : Nat) (w : World) (hz : z < 65536) (hz0 : 255 < z) (c6 : w.cell? ⟨R, oR + 6, none⟩ = some (.int .u16 160)) (c7 : w.cell? ⟨R, oR + 7, none⟩ = some (.int .u16 5760)) (c8 : w.cell? ⟨R, oR + 8, none⟩ = some (.int .u16 5600)) (c9 : w.cell? ⟨R, oR + 9, none⟩ = some (.int .u16 8192)) (c10 : w.cell? ⟨R, oR + 10, none⟩ = some (.int .u16 8202)) (c11 : w.cell? ⟨R, oR + 11, none⟩ = some (.int .u16 1)) (c12 : w.cell? ⟨R, oR + 12, none⟩ = some (.int .u16 8232)) (c13 : w.cell? ⟨R, oR + 13, none⟩ = some (.int .u16 8233)) (c14 : w.cell? ⟨R, oR + 14, none⟩ = some (.int .u16 1)) (c15 : w.cell? ⟨R, oR + 15, none⟩ = some (.int .u16 8239)) (c16 : w.cell? ⟨R, oR + 16, none⟩ = some (.int .u16 8287)) (c17 : w.cell? ⟨R, oR + 17, none⟩ = some (.int .u16 48)) (c18 : w.cell? ⟨R, oR + 18, none⟩ = some (.int .u16 12288)) (c19 : w.cell? ⟨R, oR + 19, none⟩ = some (.int .u16 12288)) (c20 : w.cell? ⟨R, oR + 20, none⟩ = some (.int .u16 1)) :
    Calls Tryd.prog 74 #[.slice (some ⟨R, oR + 6, none⟩) 5 5, .int .u16 z] w fun e w' => e = .returned (.bool (Lib.isSpaceR z)) ∧ Below w.heap.size w w' := Any.unicode_is16_white Tryd.lays311 R oR z w hz hz0 c6 c7 c8 c9 c10 c11 c12 c13 c14 c15 c16 c17 c18 c19 c20
def Tryd.lays261_ren : Go.Shelf.Ren := ⟨fun | 261 => 49 | 311 => 74 | 312 => 75 | n => n, fun | 141 => 80 | 21 => 21 | 4 => 4 | 0 => 0 | 196 => 103 | 193 => 100 | 3 => 3 | 51 => 78 | 198 => 106 | 49 => 104 | 194 => 101 | 201 => 109 | 226 => 126 | 46 => 67 | 227 => 127 | n => n, fun | n => n⟩
theorem Tryd.lays261 : Go.Proofs.Lays.n261 Tryd.prog Tryd.lays261_ren := {
  mixed := by kernel_rfl
  f261 := Tryd.func49.trans (congrArg some (by kernel_rfl))
  f311 := Tryd.func74.trans (congrArg some (by kernel_rfl))
  f312 := Tryd.func75.trans (congrArg some (by kernel_rfl))
  t0 := Tryd.underlying0
  a0 := Tryd.isAgg0
  z0 := Tryd.sizeOf0
  v0 := Tryd.zeroValue0
  t3 := Tryd.underlying3
  a3 := Tryd.isAgg3
  z3 := Tryd.sizeOf3
  v3 := Tryd.zeroValue3
  t4 := Tryd.underlying4
  a4 := Tryd.isAgg4
  z4 := Tryd.sizeOf4
  v4 := Tryd.zeroValue4
  t21 := Tryd.underlying21
  a21 := Tryd.isAgg21
  z21 := Tryd.sizeOf21
  v21 := Tryd.zeroValue21
  t46 := Tryd.underlying67
  a46 := Tryd.isAgg67
  z46 := Tryd.sizeOf67
  v46 := Tryd.zeroValue67
  t49 := Tryd.underlying104
  a49 := Tryd.isAgg104
  z49 := Tryd.sizeOf104
  v49 := Tryd.zeroValue104
  t51 := Tryd.underlying78
  a51 := Tryd.isAgg78
  z51 := Tryd.sizeOf78
  v51 := Tryd.zeroValue78
  t141 := Tryd.underlying80
  a141 := Tryd.isAgg80
  z141 := Tryd.sizeOf80
  v141 := Tryd.zeroValue80
  t193 := Tryd.underlying100
  a193 := Tryd.isAgg100
  z193 := Tryd.sizeOf100
  v193 := Tryd.zeroValue100
  t194 := Tryd.underlying101
  a194 := Tryd.isAgg101
  z194 := Tryd.sizeOf101
  v194 := Tryd.zeroValue101
  t196 := Tryd.underlying103
  a196 := Tryd.isAgg103
  z196 := Tryd.sizeOf103
  v196 := Tryd.zeroValue103
  t198 := Tryd.underlying106
  a198 := Tryd.isAgg106
  z198 := Tryd.sizeOf106
  v198 := Tryd.zeroValue106
  t201 := Tryd.underlying109
  a201 := Tryd.isAgg109
  z201 := Tryd.sizeOf109
  v201 := Tryd.zeroValue109
  t226 := Tryd.underlying126
  a226 := Tryd.isAgg126
  z226 := Tryd.sizeOf126
  v226 := Tryd.zeroValue126
  t227 := Tryd.underlying127
  a227 := Tryd.isAgg127
  z227 := Tryd.sizeOf127
  v227 := Tryd.zeroValue127 }
open Go.RowKit Go.Lib in
/-- unicode.isExcludingLatin(White_Space, r), r beyond U+00FF or negative. (LAID: no walk: one application.) -/
theorem Tryd.unicode_isExcludingLatin_white (T oT R oR : Nat) (r : Int) (w : World) (hlo : -2147483648 ≤ r) (hhi : r ≤ 2147483647) (hr : r < 0 ∨ 255 < r) (h2 : w.cell? ⟨T, oT, none⟩ = some (.slice (some ⟨R, oR, none⟩) 7 7)) (h3 : w.cell? ⟨T, oT + 1, none⟩ = some (.slice none 0 0)) (h4 : w.cell? ⟨T, oT + 2, none⟩ = some (.int .i64 2)) (h5 : ∀ i, i < 21 → w.cell? ⟨R, oR + i, none⟩ = some (.int .u16 (whiteT.getD i 0))) :
    Calls Tryd.prog 49 #[.pointer (some ⟨T, oT, none⟩), .int .i32 r] w fun e w' => e = .returned (.bool (Lib.isSpaceZ r)) ∧ Below w.heap.size w w' := Any.unicode_isExcludingLatin_white Tryd.lays261 T oT R oR r w hlo hhi hr h2 h3 h4 h5
open Go.RowKit Go.Lib in
/-- **unicode.IsSpace AT EVERY int32.** (LAID: no walk: one application.) -/
theorem Tryd.unicode_IsSpace_any (r : Int) (w : World) (hlo : -2147483648 ≤ r) (hhi : r ≤ 2147483647) (hW : Lib.WhiteTab 7 w) :
    Calls Tryd.prog 29 #[.int .i32 r] w fun e w' => e = .returned (.bool (Lib.isSpaceZ r)) ∧ Below w.heap.size w w' := Any.unicode_IsSpace_any Tryd.lays199 r w hlo hhi hW
def Tryd.lays271_ren : Go.Shelf.Ren := ⟨fun | 271 => 84 | 120 => 94 | 197 => 68 | 260 => 85 | n => n, fun | 9 => 9 | 21 => 21 | 3 => 3 | 4 => 4 | 5 => 5 | 105 => 94 | 119 => 72 | 0 => 0 | 46 => 67 | 139 => 137 | 138 => 136 | n => n, fun | 3 => 9 | 4 => 10 | n => n⟩
theorem Tryd.lays271 : Go.Proofs.Lays.n271 Tryd.prog Tryd.lays271_ren := {
  mixed := by kernel_rfl
  f120 := Tryd.func94.trans (congrArg some (by kernel_rfl))
  f197 := Tryd.func68.trans (congrArg some (by kernel_rfl))
  f260 := Tryd.func85.trans (congrArg some (by kernel_rfl))
  f271 := Tryd.func84.trans (congrArg some (by kernel_rfl))
  t0 := Tryd.underlying0
  a0 := Tryd.isAgg0
  z0 := Tryd.sizeOf0
  v0 := Tryd.zeroValue0
  t3 := Tryd.underlying3
  a3 := Tryd.isAgg3
  z3 := Tryd.sizeOf3
  v3 := Tryd.zeroValue3
  t4 := Tryd.underlying4
  a4 := Tryd.isAgg4
  z4 := Tryd.sizeOf4
  v4 := Tryd.zeroValue4
  t5 := Tryd.underlying5
  a5 := Tryd.isAgg5
  z5 := Tryd.sizeOf5
  v5 := Tryd.zeroValue5
  t9 := Tryd.underlying9
  a9 := Tryd.isAgg9
  z9 := Tryd.sizeOf9
  v9 := Tryd.zeroValue9
  t21 := Tryd.underlying21
  a21 := Tryd.isAgg21
  z21 := Tryd.sizeOf21
  v21 := Tryd.zeroValue21
  t46 := Tryd.underlying67
  a46 := Tryd.isAgg67
  z46 := Tryd.sizeOf67
  v46 := Tryd.zeroValue67
  t105 := Tryd.underlying94
  a105 := Tryd.isAgg94
  z105 := Tryd.sizeOf94
  v105 := Tryd.zeroValue94
  t119 := Tryd.underlying72
  a119 := Tryd.isAgg72
  z119 := Tryd.sizeOf72
  t138 := Tryd.underlying136
  a138 := Tryd.isAgg136
  z138 := Tryd.sizeOf136
  v138 := Tryd.zeroValue136
  t139 := Tryd.underlying137
  a139 := Tryd.isAgg137
  z139 := Tryd.sizeOf137
  v139 := Tryd.zeroValue137
  g3 := by kernel_rfl
  g4 := by kernel_rfl }
open Go.RowKit Go.Lib in
/-- **unicode/utf8.DecodeLastRuneInString AT EVERY STRING.** (LAID: no walk: one application.) -/
theorem Tryd.utf8_DecodeLastRuneInString (s : ByteArray) (w : World) (hs : s.size ≤ 9223372036854775807) (hT : Lib.Utf8Tabs 9 10 w) :
    Calls Tryd.prog 84 #[.string s] w fun e w' => e = .returned (.tuple #[.int .i32 (Lib.decodeLastL s.data.toList).1, .int .i64 (Lib.decodeLastL s.data.toList).2]) ∧ Below w.heap.size w w' := Any.utf8_DecodeLastRuneInString Tryd.lays271 s w hs hT
open Go.RowKit in
theorem Tryd.strings_TrimSpace_any (s : ByteArray) (w : World) (hs : s.size ≤ 9223372036854775807) (htab : Lib.TabIs Tryd.prog w "strings.asciiSpace" .u8 Lib.asciiSpaceTab) (hU8 : Lib.Utf8Tabs 9 10 w) (hWS : Lib.WhiteTab 7 w) :
    Calls Tryd.prog 25 #[.string s] w fun e w' => e = .returned (.string ⟨(Lib.trimSpaceD s.data.toList).toArray⟩) ∧ Below w.heap.size w w' := Any.strings_TrimSpace_any Tryd.lays163 Tryd.Space_Extra_163 s w hs htab hU8 hWS
def Tryd.lays274_ren : Go.Shelf.Ren := ⟨fun | 274 => 96 | n => n, fun | 21 => 21 | 162 => 125 | 160 => 138 | 3 => 3 | 4 => 4 | 46 => 67 | 0 => 0 | 208 => 149 | 51 => 78 | 206 => 147 | n => n, fun | n => n⟩
theorem Tryd.lays274 : Go.Proofs.Lays.n274 Tryd.prog Tryd.lays274_ren := {
  mixed := by kernel_rfl
  f274 := Tryd.func96.trans (congrArg some (by kernel_rfl))
  t0 := Tryd.underlying0
  a0 := Tryd.isAgg0
  z0 := Tryd.sizeOf0
  v0 := Tryd.zeroValue0
  t3 := Tryd.underlying3
  a3 := Tryd.isAgg3
  z3 := Tryd.sizeOf3
  v3 := Tryd.zeroValue3
  t4 := Tryd.underlying4
  a4 := Tryd.isAgg4
  z4 := Tryd.sizeOf4
  v4 := Tryd.zeroValue4
  t21 := Tryd.underlying21
  a21 := Tryd.isAgg21
  z21 := Tryd.sizeOf21
  v21 := Tryd.zeroValue21
  t46 := Tryd.underlying67
  a46 := Tryd.isAgg67
  z46 := Tryd.sizeOf67
  v46 := Tryd.zeroValue67
  t51 := Tryd.underlying78
  a51 := Tryd.isAgg78
  z51 := Tryd.sizeOf78
  v51 := Tryd.zeroValue78
  t160 := Tryd.underlying138
  a160 := Tryd.isAgg138
  z160 := Tryd.sizeOf138
  v160 := Tryd.zeroValue138
  t162 := Tryd.underlying125
  a162 := Tryd.isAgg125
  z162 := Tryd.sizeOf125
  v162 := Tryd.zeroValue125
  t208 := Tryd.underlying149
  a208 := Tryd.isAgg149
  z208 := Tryd.sizeOf149
  v208 := Tryd.zeroValue149 }
open Go.RowKit Go.Lib in
theorem Tryd.unicode_lookupCaseRange (T : Array CaseRow) (R oR cap : Nat) (r : Int) (w : World) (hT : CaseTab R oR T w) (hok : CaseOk T) (hn : T.size ≤ 1000000000) :
    Calls Tryd.prog 96 #[.int .i32 r, .slice (some ⟨R, oR, none⟩) T.size cap] w fun e w' =>
      e = .returned (match lookupIdx T r (T.size + 1) 0 T.size with | some i => .pointer (some ⟨R, oR + i * 5, none⟩) | none => .pointer none) ∧ w' = w := Any.unicode_lookupCaseRange Tryd.lays274 T R oR cap r w hT hok hn
def Tryd.lays275_ren : Go.Shelf.Ren := ⟨fun | 275 => 97 | n => n, fun | 3 => 3 | 21 => 21 | 160 => 138 | 0 => 0 | 208 => 149 | 206 => 147 | 4 => 4 | 51 => 78 | n => n, fun | n => n⟩
theorem Tryd.lays275 : Go.Proofs.Lays.n275 Tryd.prog Tryd.lays275_ren := {
  mixed := by kernel_rfl
  f275 := Tryd.func97.trans (congrArg some (by kernel_rfl))
  t0 := Tryd.underlying0
  a0 := Tryd.isAgg0
  z0 := Tryd.sizeOf0
  v0 := Tryd.zeroValue0
  t3 := Tryd.underlying3
  a3 := Tryd.isAgg3
  z3 := Tryd.sizeOf3
  v3 := Tryd.zeroValue3
  t4 := Tryd.underlying4
  a4 := Tryd.isAgg4
  z4 := Tryd.sizeOf4
  v4 := Tryd.zeroValue4
  t21 := Tryd.underlying21
  a21 := Tryd.isAgg21
  z21 := Tryd.sizeOf21
  v21 := Tryd.zeroValue21
  t51 := Tryd.underlying78
  a51 := Tryd.isAgg78
  z51 := Tryd.sizeOf78
  v51 := Tryd.zeroValue78
  t160 := Tryd.underlying138
  a160 := Tryd.isAgg138
  z160 := Tryd.sizeOf138
  v160 := Tryd.zeroValue138
  t206 := Tryd.underlying147
  a206 := Tryd.isAgg147
  z206 := Tryd.sizeOf147
  v206 := Tryd.zeroValue147
  t208 := Tryd.underlying149
  a208 := Tryd.isAgg149
  z208 := Tryd.sizeOf149
  v208 := Tryd.zeroValue149 }
open Go.RowKit Go.Lib in
theorem Tryd.unicode_convertCase (c : Nat) (hc : c < 3) (r : Int) (A o : Nat) (x : CaseRow) (w : World) (hlo : (x.1 : Int) ≤ r) (hhi : r ≤ (x.2.1 : Int)) (hH : x.2.1 < 2147483647) (c0 : w.cell? ⟨A, o, none⟩ = some (.int .u32 x.1)) (cD : w.cell? ⟨A, o + 2 + c, none⟩ = some (.int .i32 (x.delta c))) :
    Calls Tryd.prog 97 #[.int .i64 c, .int .i32 r, .pointer (some ⟨A, o, none⟩)] w fun e w' => e = .returned (.int .i32 (wrap32 (convertR c r x))) ∧ ∃ q, w' = w.drewN q := Any.unicode_convertCase Tryd.lays275 c hc r A o x w hlo hhi hH c0 cD
def Tryd.lays313_ren : Go.Shelf.Ren := ⟨fun | 313 => 88 | 274 => 96 | 275 => 97 | n => n, fun | 3 => 3 | 21 => 21 | 162 => 125 | 4 => 4 | 160 => 138 | 46 => 67 | 0 => 0 | 208 => 149 | 51 => 78 | 206 => 147 | n => n, fun | n => n⟩
theorem Tryd.lays313 : Go.Proofs.Lays.n313 Tryd.prog Tryd.lays313_ren := {
  mixed := by kernel_rfl
  f274 := Tryd.func96.trans (congrArg some (by kernel_rfl))
  f275 := Tryd.func97.trans (congrArg some (by kernel_rfl))
  f313 := Tryd.func88.trans (congrArg some (by kernel_rfl))
  t0 := Tryd.underlying0
  a0 := Tryd.isAgg0
  z0 := Tryd.sizeOf0
  v0 := Tryd.zeroValue0
  t3 := Tryd.underlying3
  a3 := Tryd.isAgg3
  z3 := Tryd.sizeOf3
  v3 := Tryd.zeroValue3
  t4 := Tryd.underlying4
  a4 := Tryd.isAgg4
  z4 := Tryd.sizeOf4
  v4 := Tryd.zeroValue4
  t21 := Tryd.underlying21
  a21 := Tryd.isAgg21
  z21 := Tryd.sizeOf21
  v21 := Tryd.zeroValue21
  t46 := Tryd.underlying67
  a46 := Tryd.isAgg67
  z46 := Tryd.sizeOf67
  v46 := Tryd.zeroValue67
  t51 := Tryd.underlying78
  a51 := Tryd.isAgg78
  z51 := Tryd.sizeOf78
  v51 := Tryd.zeroValue78
  t160 := Tryd.underlying138
  a160 := Tryd.isAgg138
  z160 := Tryd.sizeOf138
  v160 := Tryd.zeroValue138
  t162 := Tryd.underlying125
  a162 := Tryd.isAgg125
  z162 := Tryd.sizeOf125
  v162 := Tryd.zeroValue125
  t206 := Tryd.underlying147
  a206 := Tryd.isAgg147
  z206 := Tryd.sizeOf147
  v206 := Tryd.zeroValue147
  t208 := Tryd.underlying149
  a208 := Tryd.isAgg149
  z208 := Tryd.sizeOf149
  v208 := Tryd.zeroValue149 }
open Go.RowKit Go.Lib in
theorem Tryd.unicode_to (c : Nat) (hc : c < 3) (r : Int) (T : Array CaseRow) (R oR cap : Nat) (w : World) (hT : CaseTab R oR T w) (hok : CaseOk2 T) (hn : T.size ≤ 1000000000) :
    Calls Tryd.prog 88 #[.int .i64 c, .int .i32 r, .slice (some ⟨R, oR, none⟩) T.size cap] w fun e w' => e = .returned (.tuple #[.int .i32 (toW T c r), .bool (lookupIdx T r (T.size + 1) 0 T.size).isSome]) ∧ ∃ q, w' = w.drewN q := Any.unicode_to Tryd.lays313 c hc r T R oR cap w hT hok hn
def Tryd.lays262_ren : Go.Shelf.Ren := ⟨fun | 262 => 73 | 313 => 88 | 274 => 96 | 275 => 97 | n => n, fun | 3 => 3 | 21 => 21 | 162 => 125 | 203 => 123 | 4 => 4 | 160 => 138 | 46 => 67 | 0 => 0 | 208 => 149 | 51 => 78 | 206 => 147 | n => n, fun | 13 => 8 | n => n⟩
theorem Tryd.lays262 : Go.Proofs.Lays.n262 Tryd.prog Tryd.lays262_ren := {
  mixed := by kernel_rfl
  f262 := Tryd.func73.trans (congrArg some (by kernel_rfl))
  f274 := Tryd.func96.trans (congrArg some (by kernel_rfl))
  f275 := Tryd.func97.trans (congrArg some (by kernel_rfl))
  f313 := Tryd.func88.trans (congrArg some (by kernel_rfl))
  t0 := Tryd.underlying0
  a0 := Tryd.isAgg0
  z0 := Tryd.sizeOf0
  v0 := Tryd.zeroValue0
  t3 := Tryd.underlying3
  a3 := Tryd.isAgg3
  z3 := Tryd.sizeOf3
  v3 := Tryd.zeroValue3
  t4 := Tryd.underlying4
  a4 := Tryd.isAgg4
  z4 := Tryd.sizeOf4
  v4 := Tryd.zeroValue4
  t21 := Tryd.underlying21
  a21 := Tryd.isAgg21
  z21 := Tryd.sizeOf21
  v21 := Tryd.zeroValue21
  t46 := Tryd.underlying67
  a46 := Tryd.isAgg67
  z46 := Tryd.sizeOf67
  v46 := Tryd.zeroValue67
  t51 := Tryd.underlying78
  a51 := Tryd.isAgg78
  z51 := Tryd.sizeOf78
  v51 := Tryd.zeroValue78
  t160 := Tryd.underlying138
  a160 := Tryd.isAgg138
  z160 := Tryd.sizeOf138
  v160 := Tryd.zeroValue138
  t162 := Tryd.underlying125
  a162 := Tryd.isAgg125
  z162 := Tryd.sizeOf125
  v162 := Tryd.zeroValue125
  t203 := Tryd.underlying123
  a203 := Tryd.isAgg123
  z203 := Tryd.sizeOf123
  v203 := Tryd.zeroValue123
  t206 := Tryd.underlying147
  a206 := Tryd.isAgg147
  z206 := Tryd.sizeOf147
  v206 := Tryd.zeroValue147
  t208 := Tryd.underlying149
  a208 := Tryd.isAgg149
  z208 := Tryd.sizeOf149
  v208 := Tryd.zeroValue149
  g13 := by kernel_rfl }
open Go.RowKit Go.Lib in
theorem Tryd.unicode_To (c : Nat) (hc : c < 3) (r : Int) (T : Array CaseRow) (w : World) (hV : CaseVar 8 T w) (hok : CaseOk2 T) (hn : T.size ≤ 1000000000) :
    Calls Tryd.prog 73 #[.int .i64 c, .int .i32 r] w fun e w' => e = .returned (.int .i32 (toW T c r)) ∧ ∃ q, w' = w.drewN q := Any.unicode_To Tryd.lays262 c hc r T w hV hok hn
open Go.RowKit Go.Lib in
theorem Tryd.unicode_ToLower_any (r : Int) (T : Array CaseRow) (w : World) (hV : CaseVar 8 T w) (hok : CaseOk2 T) (hn : T.size ≤ 1000000000) :
    Calls Tryd.prog 47 #[.int .i32 r] w fun e w' => e = .returned (.int .i32 (Lib.toLowerW T r)) ∧ ∃ q, w' = w.drewN q := Any.unicode_ToLower_any Tryd.lays204 r T w hV hok hn
open Go.RowKit Go.Lib in
theorem Tryd.unicode_ToLower_laid (r : Int) (w : World) (hV : CaseVar 8 caseA w) :
    Calls Tryd.prog 47 #[.int .i32 r] w fun e w' => e = .returned (.int .i32 (toLowerU r)) ∧ ∃ q, w' = w.drewN q := Any.unicode_ToLower_laid Tryd.lays204 r w hV
open Go.RowKit Go.Lib in
theorem Tryd.unicode_is16_any (T : Array Rg) (R oR cap : Nat) (z : Nat) (w : World) (hz : z < 65536) (hT : RgTab .u16 R oR T w) (hok : RgOk 65536 T) (hn : T.size ≤ 1000000000) :
    Calls Tryd.prog 74 #[.slice (some ⟨R, oR, none⟩) T.size cap, .int .u16 z] w fun e w' => e = .returned (.bool (is16Go T z)) ∧ ∃ q, w' = w.drewN q := Any.unicode_is16_any Tryd.lays311 T R oR cap z w hz hT hok hn
def Tryd.lays312_ren : Go.Shelf.Ren := ⟨fun | 312 => 75 | n => n, fun | 194 => 101 | 51 => 78 | 4 => 4 | 3 => 3 | 0 => 0 | 227 => 127 | 201 => 109 | 46 => 67 | n => n, fun | n => n⟩
theorem Tryd.lays312 : Go.Proofs.Lays.n312 Tryd.prog Tryd.lays312_ren := {
  mixed := by kernel_rfl
  f312 := Tryd.func75.trans (congrArg some (by kernel_rfl))
  t0 := Tryd.underlying0
  a0 := Tryd.isAgg0
  z0 := Tryd.sizeOf0
  v0 := Tryd.zeroValue0
  t3 := Tryd.underlying3
  a3 := Tryd.isAgg3
  z3 := Tryd.sizeOf3
  v3 := Tryd.zeroValue3
  t4 := Tryd.underlying4
  a4 := Tryd.isAgg4
  z4 := Tryd.sizeOf4
  v4 := Tryd.zeroValue4
  t46 := Tryd.underlying67
  a46 := Tryd.isAgg67
  z46 := Tryd.sizeOf67
  v46 := Tryd.zeroValue67
  t51 := Tryd.underlying78
  a51 := Tryd.isAgg78
  z51 := Tryd.sizeOf78
  v51 := Tryd.zeroValue78
  t194 := Tryd.underlying101
  a194 := Tryd.isAgg101
  z194 := Tryd.sizeOf101
  v194 := Tryd.zeroValue101
  t201 := Tryd.underlying109
  a201 := Tryd.isAgg109
  z201 := Tryd.sizeOf109
  v201 := Tryd.zeroValue109
  t227 := Tryd.underlying127
  a227 := Tryd.isAgg127
  z227 := Tryd.sizeOf127
  v227 := Tryd.zeroValue127 }
open Go.RowKit Go.Lib in
theorem Tryd.unicode_is32_any (T : Array Rg) (R oR cap : Nat) (z : Nat) (w : World) (hz : z < 4294967296) (hT : RgTab .u32 R oR T w) (hok : RgOk 4294967296 T) (hn : T.size ≤ 1000000000) :
    Calls Tryd.prog 75 #[.slice (some ⟨R, oR, none⟩) T.size cap, .int .u32 z] w fun e w' => e = .returned (.bool (is32Go T z)) ∧ Below w.heap.size w w' := Any.unicode_is32_any Tryd.lays312 T R oR cap z w hz hT hok hn
open Go.RowKit Go.Lib in
theorem Tryd.unicode_isExcludingLatin_any (Tb oT : Nat) (T : RTab) (r : Int) (w : World) (hlo : -2147483648 ≤ r) (hhi : r ≤ 2147483647) (hA : RTabAt Tb oT T w) (hok : RTabOk T) :
    Calls Tryd.prog 49 #[.pointer (some ⟨Tb, oT, none⟩), .int .i32 r] w fun e w' => e = .returned (.bool (exclGo T r)) ∧ Below w.heap.size w w' := Any.unicode_isExcludingLatin_any Tryd.lays261 Tb oT T r w hlo hhi hA hok
end Go.Proofs
