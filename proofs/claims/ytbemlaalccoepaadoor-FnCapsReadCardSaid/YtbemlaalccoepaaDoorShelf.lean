/-
  DERIVED: THE SHELF's CONTRACTS AT THIS DUMP, IN PLAIN WORDS (tools/lay-plain.mjs out of 'TrydShelf.lean', which tools/lay-shelf.mjs wrote): THE SAME DECLARATIONS UNDER THE SAME NAMES: 'import', 'namespace', 'open', 'def', 'theorem' AND NOTHING ELSE: no command of the shelf's: FOR A HAND-IN. Each laying: the table of numbers ('.._ren') and one theorem, a field a fact of the dump's own or the kernel's comparison; each contract: ONE APPLICATION.
-/
import Derived.Shelf.Strings.Builder1
import Derived.Shelf.Strings.Builder2
import Derived.Shelf.Strings.OnBuilder
import Derived.Shelf.Strings.TrimSpace
import Derived.Shelf.Small.Utf8
import Derived.Shelf.Strings.BuilderF
import Derived.Shelf.Strings.BuilderK
import Derived.Shelf.Strings.Builder2Cap
import Derived.Shelf.Unicode.Latin
import Derived.Shelf.Unicode.Decode
import Derived.Shelf.Unicode.DecodeSlow
import Derived.Shelf.Unicode.DecodeAny
import Derived.Shelf.Unicode.Is16White
import Derived.Shelf.Unicode.IsSpaceAny
import Derived.Shelf.Unicode.DecodeLast
import Derived.Shelf.Unicode.Is16WhiteD
import Derived.Shelf.Unicode.IsSpaceAnyD
import Derived.Shelf.Unicode.Is16Any
import Derived.Shelf.Unicode.Is32Any
import Derived.Shelf.Unicode.ExclAny
import Derived.Shelf.Strings.BuilderCap
import Derived.Shelf.Bytes.SlSearch0
import Derived.Shelf.Bytes.SlSmallAll
import Derived.Shelf.Bytes.SlEqualAll
import Derived.Shelf.Bytes.Small
import Derived.Shelf.Bytes.TrimSpace
import Derived.Test.YtbemlaalccoepaaDoorProg
namespace Go.Proofs
open Go.Shelf
def Tryd.lays169_ren : Go.Shelf.Ren := ⟨fun | 169 => 49 | n => n, fun | 70 => 93 | 9 => 9 | 0 => 0 | 72 => 95 | 37 => 34 | 127 => 106 | 3 => 3 | 5 => 5 | n => n, fun | n => n⟩
theorem Tryd.lays169 : Go.Proofs.Lays.n169 Tryd.prog Tryd.lays169_ren := {
  mixed := by kernel_rfl
  f169 := Tryd.func49.trans (congrArg some (by kernel_rfl))
  t0 := Tryd.underlying0
  a0 := Tryd.isAgg0
  z0 := Tryd.sizeOf0
  v0 := Tryd.zeroValue0
  t3 := Tryd.underlying3
  a3 := Tryd.isAgg3
  z3 := Tryd.sizeOf3
  v3 := Tryd.zeroValue3
  t9 := Tryd.underlying9
  a9 := Tryd.isAgg9
  z9 := Tryd.sizeOf9
  v9 := Tryd.zeroValue9
  t37 := Tryd.underlying34
  a37 := Tryd.isAgg34
  z37 := Tryd.sizeOf34
  v37 := Tryd.zeroValue34
  t70 := Tryd.underlying93
  a70 := Tryd.isAgg93
  z70 := Tryd.sizeOf93
  v70 := Tryd.zeroValue93
  t72 := Tryd.underlying95
  a72 := Tryd.isAgg95
  z72 := Tryd.sizeOf95
  v72 := Tryd.zeroValue95
  t127 := Tryd.underlying106
  a127 := Tryd.isAgg106
  z127 := Tryd.sizeOf106
  v127 := Tryd.zeroValue106 }
theorem Tryd.Builder_Extra_169 : Builder.Extra Tryd.prog Tryd.lays169_ren := {
  sizeBuilder := by kernel_rfl
  liesBuilder := by kernel_rfl
  t5 := Tryd.underlying5
  a5 := Tryd.isAgg5
  z5 := Tryd.sizeOf5
  v5 := Tryd.zeroValue5
  infoByte := by kernel_rfl
  cellsByte := by kernel_rfl
  sizeByte := by kernel_rfl
  neB5 := by decide }
open Go.RowKit in
/-- (*strings.Builder).String: "String returns the accumulated string.": OF A BUILDER THAT HOLDS AT LEAST ONE BYTE. ✋ THE MODEL FREEZES THOSE BYTES IN THE BUFFER (unsafe.String): a later write INTO them ends the model's run without an answer; a later append BEHIND them goes on. The statement's order of evaluation is drawn: one draw. (LAID: no walk: one application.) -/
theorem Tryd.Builder_String (B b : Nat) (l : List UInt8) (w : World) (h : Lib.IsBuilder 95 5 B b (Lib.byteCells l) w) (h0 : l ≠ []) :
    Calls Tryd.prog 49 #[.pointer (some ⟨b, 0, none⟩)] w fun e w' => e = .returned (.string ⟨l.toArray⟩) ∧ Below B w w' := Any.Builder_String Tryd.lays169 Tryd.Builder_Extra_169 B b l w h h0
open Go.RowKit in
/-- (*strings.Builder).String OF A BUILDER THAT HOLDS NO BYTE: the empty string. (Its buffer is nil, or a row of which it has taken nothing yet; where that row has NO capacity the model lays one new block for unsafe.SliceData's 'some address'.) One draw. (LAID: no walk: one application.) -/
theorem Tryd.Builder_String_empty (B b : Nat) (w : World) (h : Lib.IsBuilder 95 5 B b [] w) (hBw : B ≤ w.heap.size) :
    Calls Tryd.prog 49 #[.pointer (some ⟨b, 0, none⟩)] w fun e w' => e = .returned (.string ⟨#[]⟩) ∧ Below B w w' := Any.Builder_String_empty Tryd.lays169 Tryd.Builder_Extra_169 B b w h hBw
open Go.RowKit in
/-- (*strings.Builder).String: "String returns the accumulated string.": WHATEVER THE BUILDER HOLDS. (LAID: no walk: one application.) -/
theorem Tryd.Builder_String_any (B b : Nat) (l : List UInt8) (w : World) (h : Lib.IsBuilder 95 5 B b (Lib.byteCells l) w) (hBw : B ≤ w.heap.size) :
    Calls Tryd.prog 49 #[.pointer (some ⟨b, 0, none⟩)] w fun e w' => e = .returned (.string ⟨l.toArray⟩) ∧ Below B w w' := Any.Builder_String_any Tryd.lays169 Tryd.Builder_Extra_169 B b l w h hBw
def Tryd.lays241_ren : Go.Shelf.Ren := ⟨fun | 241 => 60 | 277 => 69 | n => n, fun | 70 => 93 | 3 => 3 | 0 => 0 | 72 => 95 | 37 => 34 | 5 => 5 | n => n, fun | n => n⟩
theorem Tryd.lays241 : Go.Proofs.Lays.n241 Tryd.prog Tryd.lays241_ren := {
  mixed := by kernel_rfl
  f241 := Tryd.func60.trans (congrArg some (by kernel_rfl))
  f277 := Tryd.func69.trans (congrArg some (by kernel_rfl))
  t0 := Tryd.underlying0
  a0 := Tryd.isAgg0
  z0 := Tryd.sizeOf0
  v0 := Tryd.zeroValue0
  t3 := Tryd.underlying3
  a3 := Tryd.isAgg3
  z3 := Tryd.sizeOf3
  v3 := Tryd.zeroValue3
  t37 := Tryd.underlying34
  a37 := Tryd.isAgg34
  z37 := Tryd.sizeOf34
  v37 := Tryd.zeroValue34
  t70 := Tryd.underlying93
  a70 := Tryd.isAgg93
  z70 := Tryd.sizeOf93
  v70 := Tryd.zeroValue93
  t72 := Tryd.underlying95
  a72 := Tryd.isAgg95
  z72 := Tryd.sizeOf95
  v72 := Tryd.zeroValue95 }
theorem Tryd.Builder_Extra_241 : Builder.Extra Tryd.prog Tryd.lays241_ren := {
  sizeBuilder := by kernel_rfl
  liesBuilder := by kernel_rfl
  t5 := Tryd.underlying5
  a5 := Tryd.isAgg5
  z5 := Tryd.sizeOf5
  v5 := Tryd.zeroValue5
  infoByte := by kernel_rfl
  cellsByte := by kernel_rfl
  sizeByte := by kernel_rfl
  neB5 := by decide }
open Go.RowKit in
/-- (*strings.Builder).grow (no doc but "grow copies the buffer to a new, larger buffer so that there are at least n bytes of capacity beyond len(b.buf)."): AT A BUILDER WITHOUT A BUFFER: a new row of whatever bytes for its buffer, none of them its own yet. Three draws. (LAID: no walk: one application.) -/
theorem Tryd.Builder_grow_fresh (B b n : Nat) (w : World) (hB : B ≤ b) (hbk : w.heap[b]? = some (.cells #[.pointer (some ⟨b, 0, none⟩), .slice none 0 0] 95 (0, 0))) (hBw : B ≤ w.heap.size) (hn : n ≤ 281474976710656) :
    Calls Tryd.prog 60 #[.pointer (some ⟨b, 0, none⟩), .int .i64 n] w fun e w' => e = .returned (.tuple #[]) ∧ (Lib.BuilderAt 95 5 B b (.pointer (some ⟨b, 0, none⟩)) [] w' ∧ Below B w w') := Any.Builder_grow_fresh Tryd.lays241 Tryd.Builder_Extra_241 B b n w hB hbk hBw hn
def Tryd.lays165_ren : Go.Shelf.Ren := ⟨fun | 165 => 47 | 240 => 59 | 241 => 60 | 276 => 68 | 277 => 69 | n => n, fun | 70 => 93 | 3 => 3 | 0 => 0 | 4 => 4 | 9 => 9 | 20 => 20 | 72 => 95 | 37 => 34 | 164 => 116 | 5 => 5 | n => n, fun | n => n⟩
theorem Tryd.lays165 : Go.Proofs.Lays.n165 Tryd.prog Tryd.lays165_ren := {
  mixed := by kernel_rfl
  f165 := Tryd.func47.trans (congrArg some (by kernel_rfl))
  f240 := Tryd.func59.trans (congrArg some (by kernel_rfl))
  f241 := Tryd.func60.trans (congrArg some (by kernel_rfl))
  f276 := Tryd.func68.trans (congrArg some (by kernel_rfl))
  f277 := Tryd.func69.trans (congrArg some (by kernel_rfl))
  t0 := Tryd.underlying0
  a0 := Tryd.isAgg0
  z0 := Tryd.sizeOf0
  v0 := Tryd.zeroValue0
  t3 := Tryd.underlying3
  a3 := Tryd.isAgg3
  z3 := Tryd.sizeOf3
  v3 := Tryd.zeroValue3
  t4 := Tryd.underlying4
  a4 := Tryd.isAgg4
  z4 := Tryd.sizeOf4
  v4 := Tryd.zeroValue4
  t9 := Tryd.underlying9
  a9 := Tryd.isAgg9
  z9 := Tryd.sizeOf9
  v9 := Tryd.zeroValue9
  t20 := Tryd.underlying20
  a20 := Tryd.isAgg20
  z20 := Tryd.sizeOf20
  v20 := Tryd.zeroValue20
  t37 := Tryd.underlying34
  a37 := Tryd.isAgg34
  z37 := Tryd.sizeOf34
  v37 := Tryd.zeroValue34
  t70 := Tryd.underlying93
  a70 := Tryd.isAgg93
  z70 := Tryd.sizeOf93
  v70 := Tryd.zeroValue93
  t72 := Tryd.underlying95
  a72 := Tryd.isAgg95
  z72 := Tryd.sizeOf95
  v72 := Tryd.zeroValue95
  t164 := Tryd.underlying116
  a164 := Tryd.isAgg116
  z164 := Tryd.sizeOf116
  v164 := Tryd.zeroValue116 }
theorem Tryd.Builder_Extra_165 : Builder.Extra Tryd.prog Tryd.lays165_ren := {
  sizeBuilder := by kernel_rfl
  liesBuilder := by kernel_rfl
  t5 := Tryd.underlying5
  a5 := Tryd.isAgg5
  z5 := Tryd.sizeOf5
  v5 := Tryd.zeroValue5
  infoByte := by kernel_rfl
  cellsByte := by kernel_rfl
  sizeByte := by kernel_rfl
  neB5 := by decide }
open Go.RowKit in
/-- (*strings.Builder).Grow AT A BUILDER THAT HAS NOT BEEN WRITTEN ('var b strings.Builder; b.Grow(n)'): "Grow grows b's capacity, if necessary, to guarantee space for another n bytes.": it holds no byte behind it as before it. (LAID: no walk: one application.) -/
theorem Tryd.Builder_Grow_fresh (B b n : Nat) (w : World) (hB : B ≤ b) (hbk : w.heap[b]? = some (.cells #[.pointer none, .slice none 0 0] 95 (0, 0))) (hBw : B ≤ w.heap.size) (hn : n ≤ 281474976710656) :
    Calls Tryd.prog 47 #[.pointer (some ⟨b, 0, none⟩), .int .i64 n] w fun e w' => e = .returned (.tuple #[]) ∧ (Lib.BuilderAt 95 5 B b (.pointer (some ⟨b, 0, none⟩)) [] w' ∧ Below B w w') := Any.Builder_Grow_fresh Tryd.lays165 Tryd.Builder_Extra_165 B b n w hB hbk hBw hn
def Tryd.lays156_ren : Go.Shelf.Ren := ⟨fun | 156 => 33 | 165 => 47 | 166 => 48 | 169 => 49 | 240 => 59 | 241 => 60 | 276 => 68 | 277 => 69 | n => n, fun | 31 => 25 | 9 => 9 | 3 => 3 | 4 => 4 | 0 => 0 | 20 => 20 | 72 => 95 | 76 => 83 | 70 => 93 | 37 => 34 | 75 => 49 | 127 => 106 | 164 => 116 | 5 => 5 | 80 => 45 | n => n, fun | n => n⟩
theorem Tryd.lays156 : Go.Proofs.Lays.n156 Tryd.prog Tryd.lays156_ren := {
  mixed := by kernel_rfl
  f156 := Tryd.func33.trans (congrArg some (by kernel_rfl))
  f165 := Tryd.func47.trans (congrArg some (by kernel_rfl))
  f166 := Tryd.func48.trans (congrArg some (by kernel_rfl))
  f169 := Tryd.func49.trans (congrArg some (by kernel_rfl))
  f240 := Tryd.func59.trans (congrArg some (by kernel_rfl))
  f241 := Tryd.func60.trans (congrArg some (by kernel_rfl))
  f276 := Tryd.func68.trans (congrArg some (by kernel_rfl))
  f277 := Tryd.func69.trans (congrArg some (by kernel_rfl))
  t0 := Tryd.underlying0
  a0 := Tryd.isAgg0
  z0 := Tryd.sizeOf0
  v0 := Tryd.zeroValue0
  t3 := Tryd.underlying3
  a3 := Tryd.isAgg3
  z3 := Tryd.sizeOf3
  v3 := Tryd.zeroValue3
  t4 := Tryd.underlying4
  a4 := Tryd.isAgg4
  z4 := Tryd.sizeOf4
  v4 := Tryd.zeroValue4
  t9 := Tryd.underlying9
  a9 := Tryd.isAgg9
  z9 := Tryd.sizeOf9
  v9 := Tryd.zeroValue9
  t20 := Tryd.underlying20
  a20 := Tryd.isAgg20
  z20 := Tryd.sizeOf20
  v20 := Tryd.zeroValue20
  t31 := Tryd.underlying25
  a31 := Tryd.isAgg25
  z31 := Tryd.sizeOf25
  v31 := Tryd.zeroValue25
  t37 := Tryd.underlying34
  a37 := Tryd.isAgg34
  z37 := Tryd.sizeOf34
  v37 := Tryd.zeroValue34
  t70 := Tryd.underlying93
  a70 := Tryd.isAgg93
  z70 := Tryd.sizeOf93
  v70 := Tryd.zeroValue93
  t72 := Tryd.underlying95
  a72 := Tryd.isAgg95
  z72 := Tryd.sizeOf95
  v72 := Tryd.zeroValue95
  t75 := Tryd.underlying49
  a75 := Tryd.isAgg49
  z75 := Tryd.sizeOf49
  v75 := Tryd.zeroValue49
  t76 := Tryd.underlying83
  a76 := Tryd.isAgg83
  z76 := Tryd.sizeOf83
  v76 := Tryd.zeroValue83
  t127 := Tryd.underlying106
  a127 := Tryd.isAgg106
  z127 := Tryd.sizeOf106
  v127 := Tryd.zeroValue106
  t164 := Tryd.underlying116
  a164 := Tryd.isAgg116
  z164 := Tryd.sizeOf116
  v164 := Tryd.zeroValue116 }
theorem Tryd.Builder_Extra_156 : Builder.Extra Tryd.prog Tryd.lays156_ren := {
  sizeBuilder := by kernel_rfl
  liesBuilder := by kernel_rfl
  t5 := Tryd.underlying5
  a5 := Tryd.isAgg5
  z5 := Tryd.sizeOf5
  v5 := Tryd.zeroValue5
  infoByte := by kernel_rfl
  cellsByte := by kernel_rfl
  sizeByte := by kernel_rfl
  neB5 := by decide }
open Go.RowKit in
/-- No element: the empty string; the world is as it was. (Whatever the slice's address and capacity: a nil slice too.) (LAID: no walk: one application.) -/
theorem Tryd.strings_Join_none (a : Option Addr) (c : Nat) (sep : ByteArray) (w : World) :
    Calls Tryd.prog 33 #[.slice a 0 c, .string sep] w fun e w' => e = .returned (.string ⟨#[]⟩) ∧ w' = w := Any.strings_Join_none Tryd.lays156 Tryd.Builder_Extra_156 a c sep w
open Go.RowKit in
/-- strings.Join: "Join concatenates the elements of its first argument to create a single string. The separator string sep is placed between elements in the resulting string.": HOWEVER MANY ELEMENTS. Below the heap's end the world is as it was. (LAID: no walk: one application.) -/
theorem Tryd.strings_Join (bk o c : Nat) (xs : List ByteArray) (sep : ByteArray) (w : World) (hcells : ∀ (j : Nat) x, xs[j]? = some x → w.cell? ⟨bk, o + j, none⟩ = some (.string x)) (hbk : bk < w.heap.size) (hN : xs.length ≤ 140737488355328) (hcap : xs.length ≤ c) (hlen : (Lib.join (xs.map (·.data.toList)) sep.data.toList).length ≤ 140737488355328) :
    Calls Tryd.prog 33 #[.slice (some ⟨bk, o, none⟩) xs.length c, .string sep] w fun e w' => e = .returned (.string ⟨(Lib.join (xs.map (·.data.toList)) sep.data.toList).toArray⟩) ∧ Below w.heap.size w w' := Any.strings_Join Tryd.lays156 Tryd.Builder_Extra_156 bk o c xs sep w hcells hbk hN hcap hlen
def Tryd.lays163_ren : Go.Shelf.Ren := ⟨fun | 163 => 42 | 237 => 55 | 199 => 51 | 238 => 56 | 272 => 65 | 261 => 63 | 273 => 66 | 197 => 67 | 315 => 75 | 311 => 73 | 312 => 74 | 271 => 76 | 260 => 77 | 120 => 80 | n => n, fun | 9 => 9 | 37 => 34 | 3 => 3 | 0 => 0 | 5 => 5 | 4 => 4 | 40 => 99 | 119 => 100 | 21 => 21 | 51 => 107 | 141 => 109 | 105 => 114 | 196 => 124 | 193 => 121 | 198 => 127 | 49 => 125 | 194 => 122 | 201 => 130 | 226 => 132 | 46 => 133 | 227 => 134 | 139 => 138 | 138 => 137 | n => n, fun | 0 => 5 | 6 => 8 | 3 => 12 | 4 => 13 | n => n⟩
theorem Tryd.lays163 : Go.Proofs.Lays.n163 Tryd.prog Tryd.lays163_ren := {
  mixed := by kernel_rfl
  f120 := Tryd.func80.trans (congrArg some (by kernel_rfl))
  f163 := Tryd.func42.trans (congrArg some (by kernel_rfl))
  f197 := Tryd.func67.trans (congrArg some (by kernel_rfl))
  f199 := Tryd.func51.trans (congrArg some (by kernel_rfl))
  f237 := Tryd.func55.trans (congrArg some (by kernel_rfl))
  f238 := Tryd.func56.trans (congrArg some (by kernel_rfl))
  f260 := Tryd.func77.trans (congrArg some (by kernel_rfl))
  f261 := Tryd.func63.trans (congrArg some (by kernel_rfl))
  f271 := Tryd.func76.trans (congrArg some (by kernel_rfl))
  f272 := Tryd.func65.trans (congrArg some (by kernel_rfl))
  f273 := Tryd.func66.trans (congrArg some (by kernel_rfl))
  f311 := Tryd.func73.trans (congrArg some (by kernel_rfl))
  f312 := Tryd.func74.trans (congrArg some (by kernel_rfl))
  f315 := Tryd.func75.trans (congrArg some (by kernel_rfl))
  t0 := Tryd.underlying0
  a0 := Tryd.isAgg0
  z0 := Tryd.sizeOf0
  v0 := Tryd.zeroValue0
  t3 := Tryd.underlying3
  a3 := Tryd.isAgg3
  z3 := Tryd.sizeOf3
  v3 := Tryd.zeroValue3
  t4 := Tryd.underlying4
  a4 := Tryd.isAgg4
  z4 := Tryd.sizeOf4
  v4 := Tryd.zeroValue4
  t5 := Tryd.underlying5
  a5 := Tryd.isAgg5
  z5 := Tryd.sizeOf5
  v5 := Tryd.zeroValue5
  t9 := Tryd.underlying9
  a9 := Tryd.isAgg9
  z9 := Tryd.sizeOf9
  v9 := Tryd.zeroValue9
  t21 := Tryd.underlying21
  a21 := Tryd.isAgg21
  z21 := Tryd.sizeOf21
  v21 := Tryd.zeroValue21
  t37 := Tryd.underlying34
  a37 := Tryd.isAgg34
  z37 := Tryd.sizeOf34
  v37 := Tryd.zeroValue34
  t40 := Tryd.underlying99
  a40 := Tryd.isAgg99
  z40 := Tryd.sizeOf99
  v40 := Tryd.zeroValue99
  t46 := Tryd.underlying133
  a46 := Tryd.isAgg133
  z46 := Tryd.sizeOf133
  v46 := Tryd.zeroValue133
  t49 := Tryd.underlying125
  a49 := Tryd.isAgg125
  z49 := Tryd.sizeOf125
  v49 := Tryd.zeroValue125
  t51 := Tryd.underlying107
  a51 := Tryd.isAgg107
  z51 := Tryd.sizeOf107
  v51 := Tryd.zeroValue107
  t105 := Tryd.underlying114
  a105 := Tryd.isAgg114
  z105 := Tryd.sizeOf114
  v105 := Tryd.zeroValue114
  t119 := Tryd.underlying100
  a119 := Tryd.isAgg100
  z119 := Tryd.sizeOf100
  t138 := Tryd.underlying137
  a138 := Tryd.isAgg137
  z138 := Tryd.sizeOf137
  v138 := Tryd.zeroValue137
  t139 := Tryd.underlying138
  a139 := Tryd.isAgg138
  z139 := Tryd.sizeOf138
  v139 := Tryd.zeroValue138
  t141 := Tryd.underlying109
  a141 := Tryd.isAgg109
  z141 := Tryd.sizeOf109
  v141 := Tryd.zeroValue109
  t193 := Tryd.underlying121
  a193 := Tryd.isAgg121
  z193 := Tryd.sizeOf121
  v193 := Tryd.zeroValue121
  t194 := Tryd.underlying122
  a194 := Tryd.isAgg122
  z194 := Tryd.sizeOf122
  v194 := Tryd.zeroValue122
  t196 := Tryd.underlying124
  a196 := Tryd.isAgg124
  z196 := Tryd.sizeOf124
  v196 := Tryd.zeroValue124
  t198 := Tryd.underlying127
  a198 := Tryd.isAgg127
  z198 := Tryd.sizeOf127
  v198 := Tryd.zeroValue127
  t201 := Tryd.underlying130
  a201 := Tryd.isAgg130
  z201 := Tryd.sizeOf130
  v201 := Tryd.zeroValue130
  t226 := Tryd.underlying132
  a226 := Tryd.isAgg132
  z226 := Tryd.sizeOf132
  v226 := Tryd.zeroValue132
  t227 := Tryd.underlying134
  a227 := Tryd.isAgg134
  z227 := Tryd.sizeOf134
  v227 := Tryd.zeroValue134
  g0 := by kernel_rfl
  g3 := by kernel_rfl
  g4 := by kernel_rfl
  g6 := by kernel_rfl }
theorem Tryd.Space_Extra_163 : Space.Extra Tryd.prog Tryd.lays163_ren := {
  gNamed := by kernel_rfl }
open Go.RowKit in
theorem Tryd.strings_TrimSpace (s : ByteArray) (w : World) (hs : s.size ≤ 9223372036854775807) (hascii : ∀ (j : Nat) b, s.data.toList[j]? = some b → b.toNat < 128) (htab : Lib.TabIs Tryd.prog w "strings.asciiSpace" .u8 Lib.asciiSpaceTab) :
    Calls Tryd.prog 42 #[.string s] w fun e w' => e = .returned (.string ⟨(Lib.trimSpace s.data.toList).toArray⟩) ∧ w' = Lib.bytesWorld w 5 s := Any.strings_TrimSpace Tryd.lays163 Tryd.Space_Extra_163 s w hs hascii htab
def Tryd.lays120_ren : Go.Shelf.Ren := ⟨fun | 120 => 80 | n => n, fun | 5 => 5 | 4 => 4 | n => n, fun | n => n⟩
theorem Tryd.lays120 : Go.Proofs.Lays.n120 Tryd.prog Tryd.lays120_ren := {
  mixed := by kernel_rfl
  f120 := Tryd.func80.trans (congrArg some (by kernel_rfl))
  t4 := Tryd.underlying4
  a4 := Tryd.isAgg4
  z4 := Tryd.sizeOf4
  v4 := Tryd.zeroValue4
  t5 := Tryd.underlying5
  a5 := Tryd.isAgg5
  z5 := Tryd.sizeOf5
  v5 := Tryd.zeroValue5 }
/-- utf8.RuneStart: "RuneStart reports whether the byte could be the first byte of an encoded, possibly invalid rune. Second and subsequent bytes always have the top two bits set to 10.": IT RETURNS 'Lib.runeStart b'; the world is as it was. ('h0', 'h1': b is a byte: a caller has it of every byte that it was handed.) (LAID: no walk: one application.) -/
theorem Tryd.utf8_RuneStart (b : Int) (w : World) (h0 : 0 ≤ b) (h1 : b < 256) :
    Calls Tryd.prog 80 #[.int .u8 b] w fun e w' => e = .returned (.bool (Lib.runeStart b)) ∧ w' = w := Any.utf8_RuneStart Tryd.lays120 b w h0 h1
open Go.RowKit in
/-- (*strings.Builder).String: "String returns the accumulated string.": OF A BUILDER THAT HOLDS AT LEAST ONE BYTE. ✋ THE MODEL FREEZES THOSE BYTES IN THE BUFFER (unsafe.String): a later write INTO them ends the model's run without an answer; a later append BEHIND them goes on. The statement's order of evaluation is drawn: one draw. THE FORM '_f': IT SAYS BESIDES THAT THE BUILDER IS A BUILDER STILL ('Lib.IsBuilderF', the same bytes): SO IT CAN BE WRITTEN ON: 'b.WriteString(b.String()[:k])'. (LAID: no walk: one application.) -/
theorem Tryd.Builder_String_f (B b : Nat) (l : List UInt8) (w : World) (h : Lib.IsBuilderF 95 5 B b (Lib.byteCells l) w) (h0 : l ≠ []) :
    Calls Tryd.prog 49 #[.pointer (some ⟨b, 0, none⟩)] w fun e w' => e = .returned (.string ⟨l.toArray⟩) ∧ (Lib.IsBuilderF 95 5 B b (Lib.byteCells l) w' ∧ Below B w w') := Any.Builder_String_f Tryd.lays169 Tryd.Builder_Extra_169 B b l w h h0
open Go.RowKit in
/-- (*strings.Builder).String OF A BUILDER THAT HOLDS NO BYTE: the empty string; THE FORM '_f': a builder still. (LAID: no walk: one application.) -/
theorem Tryd.Builder_String_empty_f (B b : Nat) (w : World) (h : Lib.IsBuilderF 95 5 B b [] w) (hBw : B ≤ w.heap.size) :
    Calls Tryd.prog 49 #[.pointer (some ⟨b, 0, none⟩)] w fun e w' => e = .returned (.string ⟨#[]⟩) ∧ (Lib.IsBuilderF 95 5 B b [] w' ∧ Below B w w') := Any.Builder_String_empty_f Tryd.lays169 Tryd.Builder_Extra_169 B b w h hBw
open Go.RowKit in
/-- (*strings.Builder).String: "String returns the accumulated string.": WHATEVER THE BUILDER HOLDS; THE FORM '_f': OF A BUILDER THAT MAY HAVE BEEN READ BEFORE; AND IT IS A BUILDER STILL, holding the same bytes: it can be written on. (LAID: no walk: one application.) -/
theorem Tryd.Builder_String_any_f (B b : Nat) (l : List UInt8) (w : World) (h : Lib.IsBuilderF 95 5 B b (Lib.byteCells l) w) (hBw : B ≤ w.heap.size) :
    Calls Tryd.prog 49 #[.pointer (some ⟨b, 0, none⟩)] w fun e w' => e = .returned (.string ⟨l.toArray⟩) ∧ (Lib.IsBuilderF 95 5 B b (Lib.byteCells l) w' ∧ Below B w w') := Any.Builder_String_any_f Tryd.lays169 Tryd.Builder_Extra_169 B b l w h hBw
open Go.RowKit in
/-- (*strings.Builder).String: "String returns the accumulated string.": OF A BUILDER THAT HOLDS AT LEAST ONE BYTE. ✋ THE MODEL FREEZES THOSE BYTES IN THE BUFFER (unsafe.String): a later write INTO them ends the model's run without an answer; a later append BEHIND them goes on. The statement's order of evaluation is drawn: one draw. THE FORM '_k': OVER 'Lib.IsBuilderF' (a builder that 'String()' may have read), AND WITH THE FRAME THAT REACHES ABOVE THE BUILDER: 'Lib.OthersKept': every block that is not b and is no row of uint8's stands as it stood: the iterator of a range among them. (LAID: no walk: one application.) -/
theorem Tryd.Builder_String_k (B b : Nat) (l : List UInt8) (w : World) (h : Lib.IsBuilderF 95 5 B b (Lib.byteCells l) w) (h0 : l ≠ []) :
    Calls Tryd.prog 49 #[.pointer (some ⟨b, 0, none⟩)] w fun e w' => e = .returned (.string ⟨l.toArray⟩) ∧ (Lib.IsBuilderF 95 5 B b (Lib.byteCells l) w' ∧ Below B w w' ∧ Lib.OthersKept 5 (some b) w w') := Any.Builder_String_k Tryd.lays169 Tryd.Builder_Extra_169 B b l w h h0
open Go.RowKit in
/-- (*strings.Builder).String OF A BUILDER THAT HOLDS NO BYTE: the empty string; THE FORM '_k': OVER 'Lib.IsBuilderF' (a builder that 'String()' may have read), AND WITH THE FRAME THAT REACHES ABOVE THE BUILDER: 'Lib.OthersKept': every block that is not b and is no row of uint8's stands as it stood: the iterator of a range among them. (LAID: no walk: one application.) -/
theorem Tryd.Builder_String_empty_k (B b : Nat) (w : World) (h : Lib.IsBuilderF 95 5 B b [] w) (hBw : B ≤ w.heap.size) :
    Calls Tryd.prog 49 #[.pointer (some ⟨b, 0, none⟩)] w fun e w' => e = .returned (.string ⟨#[]⟩) ∧ (Lib.IsBuilderF 95 5 B b [] w' ∧ Below B w w' ∧ Lib.OthersKept 5 (some b) w w') := Any.Builder_String_empty_k Tryd.lays169 Tryd.Builder_Extra_169 B b w h hBw
open Go.RowKit in
/-- (*strings.Builder).String: "String returns the accumulated string.": WHATEVER THE BUILDER HOLDS; THE FORM '_k': OVER 'Lib.IsBuilderF' (a builder that 'String()' may have read), AND WITH THE FRAME THAT REACHES ABOVE THE BUILDER: 'Lib.OthersKept': every block that is not b and is no row of uint8's stands as it stood: the iterator of a range among them. (LAID: no walk: one application.) -/
theorem Tryd.Builder_String_any_k (B b : Nat) (l : List UInt8) (w : World) (h : Lib.IsBuilderF 95 5 B b (Lib.byteCells l) w) (hBw : B ≤ w.heap.size) :
    Calls Tryd.prog 49 #[.pointer (some ⟨b, 0, none⟩)] w fun e w' => e = .returned (.string ⟨l.toArray⟩) ∧ (Lib.IsBuilderF 95 5 B b (Lib.byteCells l) w' ∧ Below B w w' ∧ Lib.OthersKept 5 (some b) w w') := Any.Builder_String_any_k Tryd.lays169 Tryd.Builder_Extra_169 B b l w h hBw
open Go.RowKit in
/-- (*strings.Builder).grow (no doc but "grow copies the buffer to a new, larger buffer so that there are at least n bytes of capacity beyond len(b.buf)."): AT A BUILDER WITHOUT A BUFFER: a new row of whatever bytes for its buffer, none of them its own yet. Three draws. (LAID: no walk: one application.) -/
theorem Tryd.Builder_grow_fresh_cap (B b n : Nat) (w : World) (hB : B ≤ b) (hbk : w.heap[b]? = some (.cells #[.pointer (some ⟨b, 0, none⟩), .slice none 0 0] 95 (0, 0))) (hBw : B ≤ w.heap.size) (hn : n ≤ 281474976710656) :
    Calls Tryd.prog 60 #[.pointer (some ⟨b, 0, none⟩), .int .i64 n] w fun e w' => e = .returned (.tuple #[]) ∧ (Lib.BuilderAt 95 5 B b (.pointer (some ⟨b, 0, none⟩)) [] w' ∧ Below B w w') ∧ ∃ p cap, w'.cell? ⟨b, 1, none⟩ = some (.slice p 0 cap) ∧ n ≤ cap := Any.Builder_grow_fresh_cap Tryd.lays241 Tryd.Builder_Extra_241 B b n w hB hbk hBw hn
open Go.RowKit in
/-- (*strings.Builder).Grow AT A BUILDER THAT HAS NOT BEEN WRITTEN ('var b strings.Builder; b.Grow(n)'): "Grow grows b's capacity, if necessary, to guarantee space for another n bytes.": it holds no byte behind it as before it. (LAID: no walk: one application.) -/
theorem Tryd.Builder_Grow_fresh_cap (B b n : Nat) (w : World) (hB : B ≤ b) (hbk : w.heap[b]? = some (.cells #[.pointer none, .slice none 0 0] 95 (0, 0))) (hBw : B ≤ w.heap.size) (hn : n ≤ 281474976710656) :
    Calls Tryd.prog 47 #[.pointer (some ⟨b, 0, none⟩), .int .i64 n] w fun e w' => e = .returned (.tuple #[]) ∧ (Lib.BuilderAt 95 5 B b (.pointer (some ⟨b, 0, none⟩)) [] w' ∧ Below B w w') ∧ ∃ p cap, w'.cell? ⟨b, 1, none⟩ = some (.slice p 0 cap) ∧ n ≤ cap := Any.Builder_Grow_fresh_cap Tryd.lays165 Tryd.Builder_Extra_165 B b n w hB hbk hBw hn
def Tryd.lays199_ren : Go.Shelf.Ren := ⟨fun | 199 => 51 | 261 => 63 | 311 => 73 | 312 => 74 | n => n, fun | 21 => 21 | 4 => 4 | 51 => 107 | 141 => 109 | 0 => 0 | 196 => 124 | 193 => 121 | 3 => 3 | 198 => 127 | 49 => 125 | 194 => 122 | 201 => 130 | 226 => 132 | 46 => 133 | 227 => 134 | n => n, fun | 6 => 8 | n => n⟩
theorem Tryd.lays199 : Go.Proofs.Lays.n199 Tryd.prog Tryd.lays199_ren := {
  mixed := by kernel_rfl
  f199 := Tryd.func51.trans (congrArg some (by kernel_rfl))
  f261 := Tryd.func63.trans (congrArg some (by kernel_rfl))
  f311 := Tryd.func73.trans (congrArg some (by kernel_rfl))
  f312 := Tryd.func74.trans (congrArg some (by kernel_rfl))
  t0 := Tryd.underlying0
  a0 := Tryd.isAgg0
  z0 := Tryd.sizeOf0
  v0 := Tryd.zeroValue0
  t3 := Tryd.underlying3
  a3 := Tryd.isAgg3
  z3 := Tryd.sizeOf3
  v3 := Tryd.zeroValue3
  t4 := Tryd.underlying4
  a4 := Tryd.isAgg4
  z4 := Tryd.sizeOf4
  v4 := Tryd.zeroValue4
  t21 := Tryd.underlying21
  a21 := Tryd.isAgg21
  z21 := Tryd.sizeOf21
  v21 := Tryd.zeroValue21
  t46 := Tryd.underlying133
  a46 := Tryd.isAgg133
  z46 := Tryd.sizeOf133
  v46 := Tryd.zeroValue133
  t49 := Tryd.underlying125
  a49 := Tryd.isAgg125
  z49 := Tryd.sizeOf125
  v49 := Tryd.zeroValue125
  t51 := Tryd.underlying107
  a51 := Tryd.isAgg107
  z51 := Tryd.sizeOf107
  v51 := Tryd.zeroValue107
  t141 := Tryd.underlying109
  a141 := Tryd.isAgg109
  z141 := Tryd.sizeOf109
  v141 := Tryd.zeroValue109
  t193 := Tryd.underlying121
  a193 := Tryd.isAgg121
  z193 := Tryd.sizeOf121
  v193 := Tryd.zeroValue121
  t194 := Tryd.underlying122
  a194 := Tryd.isAgg122
  z194 := Tryd.sizeOf122
  v194 := Tryd.zeroValue122
  t196 := Tryd.underlying124
  a196 := Tryd.isAgg124
  z196 := Tryd.sizeOf124
  v196 := Tryd.zeroValue124
  t198 := Tryd.underlying127
  a198 := Tryd.isAgg127
  z198 := Tryd.sizeOf127
  v198 := Tryd.zeroValue127
  t201 := Tryd.underlying130
  a201 := Tryd.isAgg130
  z201 := Tryd.sizeOf130
  v201 := Tryd.zeroValue130
  t226 := Tryd.underlying132
  a226 := Tryd.isAgg132
  z226 := Tryd.sizeOf132
  v226 := Tryd.zeroValue132
  t227 := Tryd.underlying134
  a227 := Tryd.isAgg134
  z227 := Tryd.sizeOf134
  v227 := Tryd.zeroValue134
  g6 := by kernel_rfl }
open Go.RowKit Go.Lib in
theorem Tryd.unicode_IsSpace (r : Int) (w : World) (h0 : 0 ≤ r) (h : r ≤ 255) :
    Calls Tryd.prog 51 #[.int .i32 r] w fun e w' => e = .returned (.bool (Lib.isSpaceL r)) ∧ w' = w := Any.unicode_IsSpace Tryd.lays199 r w h0 h
def Tryd.lays197_ren : Go.Shelf.Ren := ⟨fun | 197 => 67 | 260 => 77 | n => n, fun | 9 => 9 | 21 => 21 | 3 => 3 | 4 => 4 | 5 => 5 | 105 => 114 | 119 => 100 | 0 => 0 | 46 => 133 | 139 => 138 | 138 => 137 | n => n, fun | 3 => 12 | 4 => 13 | n => n⟩
theorem Tryd.lays197 : Go.Proofs.Lays.n197 Tryd.prog Tryd.lays197_ren := {
  mixed := by kernel_rfl
  f197 := Tryd.func67.trans (congrArg some (by kernel_rfl))
  f260 := Tryd.func77.trans (congrArg some (by kernel_rfl))
  t0 := Tryd.underlying0
  a0 := Tryd.isAgg0
  z0 := Tryd.sizeOf0
  v0 := Tryd.zeroValue0
  t3 := Tryd.underlying3
  a3 := Tryd.isAgg3
  z3 := Tryd.sizeOf3
  v3 := Tryd.zeroValue3
  t4 := Tryd.underlying4
  a4 := Tryd.isAgg4
  z4 := Tryd.sizeOf4
  v4 := Tryd.zeroValue4
  t5 := Tryd.underlying5
  a5 := Tryd.isAgg5
  z5 := Tryd.sizeOf5
  v5 := Tryd.zeroValue5
  t9 := Tryd.underlying9
  a9 := Tryd.isAgg9
  z9 := Tryd.sizeOf9
  v9 := Tryd.zeroValue9
  t21 := Tryd.underlying21
  a21 := Tryd.isAgg21
  z21 := Tryd.sizeOf21
  v21 := Tryd.zeroValue21
  t46 := Tryd.underlying133
  a46 := Tryd.isAgg133
  z46 := Tryd.sizeOf133
  v46 := Tryd.zeroValue133
  t105 := Tryd.underlying114
  a105 := Tryd.isAgg114
  z105 := Tryd.sizeOf114
  v105 := Tryd.zeroValue114
  t119 := Tryd.underlying100
  a119 := Tryd.isAgg100
  z119 := Tryd.sizeOf100
  t138 := Tryd.underlying137
  a138 := Tryd.isAgg137
  z138 := Tryd.sizeOf137
  v138 := Tryd.zeroValue137
  t139 := Tryd.underlying138
  a139 := Tryd.isAgg138
  z139 := Tryd.sizeOf138
  v139 := Tryd.zeroValue138
  g3 := by kernel_rfl
  g4 := by kernel_rfl }
open Go.RowKit Go.Lib in
/-- unicode/utf8.DecodeRuneInString: "DecodeRuneInString is like DecodeRune but its input is a string.": ("DecodeRune unpacks the first UTF-8 encoding in p and returns the rune and its width in bytes."): WHERE s BEGINS WITH AN ASCII BYTE x: (x, 1). (LAID: no walk: one application.) -/
theorem Tryd.utf8_DecodeRuneInString_ascii (s : ByteArray) (x : UInt8) (w : World) (h0 : s.data.toList[0]? = some x) (hx : x.toNat < 128) :
    Calls Tryd.prog 67 #[.string s] w fun e w' => e = .returned (.tuple #[.int .i32 x.toNat, .int .i64 1]) ∧ w' = w := Any.utf8_DecodeRuneInString_ascii Tryd.lays197 s x w h0 hx
def Tryd.lays260_ren : Go.Shelf.Ren := ⟨fun | 260 => 77 | n => n, fun | 9 => 9 | 21 => 21 | 3 => 3 | 4 => 4 | 5 => 5 | 119 => 100 | 0 => 0 | 46 => 133 | 139 => 138 | 138 => 137 | n => n, fun | 3 => 12 | 4 => 13 | n => n⟩
theorem Tryd.lays260 : Go.Proofs.Lays.n260 Tryd.prog Tryd.lays260_ren := {
  mixed := by kernel_rfl
  f260 := Tryd.func77.trans (congrArg some (by kernel_rfl))
  t0 := Tryd.underlying0
  a0 := Tryd.isAgg0
  z0 := Tryd.sizeOf0
  v0 := Tryd.zeroValue0
  t3 := Tryd.underlying3
  a3 := Tryd.isAgg3
  z3 := Tryd.sizeOf3
  v3 := Tryd.zeroValue3
  t4 := Tryd.underlying4
  a4 := Tryd.isAgg4
  z4 := Tryd.sizeOf4
  v4 := Tryd.zeroValue4
  t5 := Tryd.underlying5
  a5 := Tryd.isAgg5
  z5 := Tryd.sizeOf5
  v5 := Tryd.zeroValue5
  t9 := Tryd.underlying9
  a9 := Tryd.isAgg9
  z9 := Tryd.sizeOf9
  v9 := Tryd.zeroValue9
  t21 := Tryd.underlying21
  a21 := Tryd.isAgg21
  z21 := Tryd.sizeOf21
  v21 := Tryd.zeroValue21
  t46 := Tryd.underlying133
  a46 := Tryd.isAgg133
  z46 := Tryd.sizeOf133
  v46 := Tryd.zeroValue133
  t119 := Tryd.underlying100
  a119 := Tryd.isAgg100
  z119 := Tryd.sizeOf100
  t138 := Tryd.underlying137
  a138 := Tryd.isAgg137
  z138 := Tryd.sizeOf137
  v138 := Tryd.zeroValue137
  t139 := Tryd.underlying138
  a139 := Tryd.isAgg138
  z139 := Tryd.sizeOf138
  v139 := Tryd.zeroValue138
  g3 := by kernel_rfl
  g4 := by kernel_rfl }
open Go.RowKit Go.Lib in
theorem Tryd.utf8_decodeRuneInStringSlow (s : ByteArray) (w : World) (hT : Lib.Utf8Tabs 12 13 w) :
    Calls Tryd.prog 77 #[.string s] w fun e w' => e = .returned (.tuple #[.int .i32 (Lib.decodeGo s).1, .int .i64 (Lib.decodeGo s).2]) ∧ Below w.heap.size w w' := Any.utf8_decodeRuneInStringSlow Tryd.lays260 s w hT
open Go.RowKit Go.Lib in
/-- **unicode/utf8.DecodeRuneInString AT EVERY STRING.** (LAID: no walk: one application.) -/
theorem Tryd.utf8_DecodeRuneInString (s : ByteArray) (w : World) (hT : Lib.Utf8Tabs 12 13 w) :
    Calls Tryd.prog 67 #[.string s] w fun e w' => e = .returned (.tuple #[.int .i32 (Lib.decodeGo s).1, .int .i64 (Lib.decodeGo s).2]) ∧ Below w.heap.size w w' := Any.utf8_DecodeRuneInString Tryd.lays197 s w hT
def Tryd.lays311_ren : Go.Shelf.Ren := ⟨fun | 311 => 73 | n => n, fun | 193 => 121 | 49 => 125 | 4 => 4 | 3 => 3 | 0 => 0 | 226 => 132 | 198 => 127 | 46 => 133 | n => n, fun | n => n⟩
theorem Tryd.lays311 : Go.Proofs.Lays.n311 Tryd.prog Tryd.lays311_ren := {
  mixed := by kernel_rfl
  f311 := Tryd.func73.trans (congrArg some (by kernel_rfl))
  t0 := Tryd.underlying0
  a0 := Tryd.isAgg0
  z0 := Tryd.sizeOf0
  v0 := Tryd.zeroValue0
  t3 := Tryd.underlying3
  a3 := Tryd.isAgg3
  z3 := Tryd.sizeOf3
  v3 := Tryd.zeroValue3
  t4 := Tryd.underlying4
  a4 := Tryd.isAgg4
  z4 := Tryd.sizeOf4
  v4 := Tryd.zeroValue4
  t46 := Tryd.underlying133
  a46 := Tryd.isAgg133
  z46 := Tryd.sizeOf133
  v46 := Tryd.zeroValue133
  t49 := Tryd.underlying125
  a49 := Tryd.isAgg125
  z49 := Tryd.sizeOf125
  v49 := Tryd.zeroValue125
  t193 := Tryd.underlying121
  a193 := Tryd.isAgg121
  z193 := Tryd.sizeOf121
  v193 := Tryd.zeroValue121
  t198 := Tryd.underlying127
  a198 := Tryd.isAgg127
  z198 := Tryd.sizeOf127
  v198 := Tryd.zeroValue127
  t226 := Tryd.underlying132
  a226 := Tryd.isAgg132
  z226 := Tryd.sizeOf132
  v226 := Tryd.zeroValue132 }
open Go.RowKit Go.Lib in
theorem Tryd.unicode_is16_white (R oR : Nat) (z : Nat) (w : World) (hz : z < 65536) (hz0 : 255 < z) (c6 : w.cell? ⟨R, oR + 6, none⟩ = some (.int .u16 160)) (c7 : w.cell? ⟨R, oR + 7, none⟩ = some (.int .u16 5760)) (c8 : w.cell? ⟨R, oR + 8, none⟩ = some (.int .u16 5600)) (c9 : w.cell? ⟨R, oR + 9, none⟩ = some (.int .u16 8192)) (c10 : w.cell? ⟨R, oR + 10, none⟩ = some (.int .u16 8202)) (c11 : w.cell? ⟨R, oR + 11, none⟩ = some (.int .u16 1)) (c12 : w.cell? ⟨R, oR + 12, none⟩ = some (.int .u16 8232)) (c13 : w.cell? ⟨R, oR + 13, none⟩ = some (.int .u16 8233)) (c14 : w.cell? ⟨R, oR + 14, none⟩ = some (.int .u16 1)) (c15 : w.cell? ⟨R, oR + 15, none⟩ = some (.int .u16 8239)) (c16 : w.cell? ⟨R, oR + 16, none⟩ = some (.int .u16 8287)) (c17 : w.cell? ⟨R, oR + 17, none⟩ = some (.int .u16 48)) (c18 : w.cell? ⟨R, oR + 18, none⟩ = some (.int .u16 12288)) (c19 : w.cell? ⟨R, oR + 19, none⟩ = some (.int .u16 12288)) (c20 : w.cell? ⟨R, oR + 20, none⟩ = some (.int .u16 1)) :
    Calls Tryd.prog 73 #[.slice (some ⟨R, oR + 6, none⟩) 5 5, .int .u16 z] w fun e w' => e = .returned (.bool (Lib.isSpaceR z)) ∧ Below w.heap.size w w' := Any.unicode_is16_white Tryd.lays311 R oR z w hz hz0 c6 c7 c8 c9 c10 c11 c12 c13 c14 c15 c16 c17 c18 c19 c20
def Tryd.lays261_ren : Go.Shelf.Ren := ⟨fun | 261 => 63 | 311 => 73 | 312 => 74 | n => n, fun | 141 => 109 | 21 => 21 | 4 => 4 | 0 => 0 | 196 => 124 | 193 => 121 | 3 => 3 | 51 => 107 | 198 => 127 | 49 => 125 | 194 => 122 | 201 => 130 | 226 => 132 | 46 => 133 | 227 => 134 | n => n, fun | n => n⟩
theorem Tryd.lays261 : Go.Proofs.Lays.n261 Tryd.prog Tryd.lays261_ren := {
  mixed := by kernel_rfl
  f261 := Tryd.func63.trans (congrArg some (by kernel_rfl))
  f311 := Tryd.func73.trans (congrArg some (by kernel_rfl))
  f312 := Tryd.func74.trans (congrArg some (by kernel_rfl))
  t0 := Tryd.underlying0
  a0 := Tryd.isAgg0
  z0 := Tryd.sizeOf0
  v0 := Tryd.zeroValue0
  t3 := Tryd.underlying3
  a3 := Tryd.isAgg3
  z3 := Tryd.sizeOf3
  v3 := Tryd.zeroValue3
  t4 := Tryd.underlying4
  a4 := Tryd.isAgg4
  z4 := Tryd.sizeOf4
  v4 := Tryd.zeroValue4
  t21 := Tryd.underlying21
  a21 := Tryd.isAgg21
  z21 := Tryd.sizeOf21
  v21 := Tryd.zeroValue21
  t46 := Tryd.underlying133
  a46 := Tryd.isAgg133
  z46 := Tryd.sizeOf133
  v46 := Tryd.zeroValue133
  t49 := Tryd.underlying125
  a49 := Tryd.isAgg125
  z49 := Tryd.sizeOf125
  v49 := Tryd.zeroValue125
  t51 := Tryd.underlying107
  a51 := Tryd.isAgg107
  z51 := Tryd.sizeOf107
  v51 := Tryd.zeroValue107
  t141 := Tryd.underlying109
  a141 := Tryd.isAgg109
  z141 := Tryd.sizeOf109
  v141 := Tryd.zeroValue109
  t193 := Tryd.underlying121
  a193 := Tryd.isAgg121
  z193 := Tryd.sizeOf121
  v193 := Tryd.zeroValue121
  t194 := Tryd.underlying122
  a194 := Tryd.isAgg122
  z194 := Tryd.sizeOf122
  v194 := Tryd.zeroValue122
  t196 := Tryd.underlying124
  a196 := Tryd.isAgg124
  z196 := Tryd.sizeOf124
  v196 := Tryd.zeroValue124
  t198 := Tryd.underlying127
  a198 := Tryd.isAgg127
  z198 := Tryd.sizeOf127
  v198 := Tryd.zeroValue127
  t201 := Tryd.underlying130
  a201 := Tryd.isAgg130
  z201 := Tryd.sizeOf130
  v201 := Tryd.zeroValue130
  t226 := Tryd.underlying132
  a226 := Tryd.isAgg132
  z226 := Tryd.sizeOf132
  v226 := Tryd.zeroValue132
  t227 := Tryd.underlying134
  a227 := Tryd.isAgg134
  z227 := Tryd.sizeOf134
  v227 := Tryd.zeroValue134 }
open Go.RowKit Go.Lib in
/-- unicode.isExcludingLatin(White_Space, r), r beyond U+00FF or negative. (LAID: no walk: one application.) -/
theorem Tryd.unicode_isExcludingLatin_white (T oT R oR : Nat) (r : Int) (w : World) (hlo : -2147483648 ≤ r) (hhi : r ≤ 2147483647) (hr : r < 0 ∨ 255 < r) (h2 : w.cell? ⟨T, oT, none⟩ = some (.slice (some ⟨R, oR, none⟩) 7 7)) (h3 : w.cell? ⟨T, oT + 1, none⟩ = some (.slice none 0 0)) (h4 : w.cell? ⟨T, oT + 2, none⟩ = some (.int .i64 2)) (h5 : ∀ i, i < 21 → w.cell? ⟨R, oR + i, none⟩ = some (.int .u16 (whiteT.getD i 0))) :
    Calls Tryd.prog 63 #[.pointer (some ⟨T, oT, none⟩), .int .i32 r] w fun e w' => e = .returned (.bool (Lib.isSpaceZ r)) ∧ Below w.heap.size w w' := Any.unicode_isExcludingLatin_white Tryd.lays261 T oT R oR r w hlo hhi hr h2 h3 h4 h5
open Go.RowKit Go.Lib in
/-- **unicode.IsSpace AT EVERY int32.** (LAID: no walk: one application.) -/
theorem Tryd.unicode_IsSpace_any (r : Int) (w : World) (hlo : -2147483648 ≤ r) (hhi : r ≤ 2147483647) (hW : Lib.WhiteTab 8 w) :
    Calls Tryd.prog 51 #[.int .i32 r] w fun e w' => e = .returned (.bool (Lib.isSpaceZ r)) ∧ Below w.heap.size w w' := Any.unicode_IsSpace_any Tryd.lays199 r w hlo hhi hW
def Tryd.lays271_ren : Go.Shelf.Ren := ⟨fun | 271 => 76 | 120 => 80 | 197 => 67 | 260 => 77 | n => n, fun | 9 => 9 | 21 => 21 | 3 => 3 | 4 => 4 | 5 => 5 | 105 => 114 | 119 => 100 | 0 => 0 | 46 => 133 | 139 => 138 | 138 => 137 | n => n, fun | 3 => 12 | 4 => 13 | n => n⟩
theorem Tryd.lays271 : Go.Proofs.Lays.n271 Tryd.prog Tryd.lays271_ren := {
  mixed := by kernel_rfl
  f120 := Tryd.func80.trans (congrArg some (by kernel_rfl))
  f197 := Tryd.func67.trans (congrArg some (by kernel_rfl))
  f260 := Tryd.func77.trans (congrArg some (by kernel_rfl))
  f271 := Tryd.func76.trans (congrArg some (by kernel_rfl))
  t0 := Tryd.underlying0
  a0 := Tryd.isAgg0
  z0 := Tryd.sizeOf0
  v0 := Tryd.zeroValue0
  t3 := Tryd.underlying3
  a3 := Tryd.isAgg3
  z3 := Tryd.sizeOf3
  v3 := Tryd.zeroValue3
  t4 := Tryd.underlying4
  a4 := Tryd.isAgg4
  z4 := Tryd.sizeOf4
  v4 := Tryd.zeroValue4
  t5 := Tryd.underlying5
  a5 := Tryd.isAgg5
  z5 := Tryd.sizeOf5
  v5 := Tryd.zeroValue5
  t9 := Tryd.underlying9
  a9 := Tryd.isAgg9
  z9 := Tryd.sizeOf9
  v9 := Tryd.zeroValue9
  t21 := Tryd.underlying21
  a21 := Tryd.isAgg21
  z21 := Tryd.sizeOf21
  v21 := Tryd.zeroValue21
  t46 := Tryd.underlying133
  a46 := Tryd.isAgg133
  z46 := Tryd.sizeOf133
  v46 := Tryd.zeroValue133
  t105 := Tryd.underlying114
  a105 := Tryd.isAgg114
  z105 := Tryd.sizeOf114
  v105 := Tryd.zeroValue114
  t119 := Tryd.underlying100
  a119 := Tryd.isAgg100
  z119 := Tryd.sizeOf100
  t138 := Tryd.underlying137
  a138 := Tryd.isAgg137
  z138 := Tryd.sizeOf137
  v138 := Tryd.zeroValue137
  t139 := Tryd.underlying138
  a139 := Tryd.isAgg138
  z139 := Tryd.sizeOf138
  v139 := Tryd.zeroValue138
  g3 := by kernel_rfl
  g4 := by kernel_rfl }
open Go.RowKit Go.Lib in
/-- **unicode/utf8.DecodeLastRuneInString AT EVERY STRING.** (LAID: no walk: one application.) -/
theorem Tryd.utf8_DecodeLastRuneInString (s : ByteArray) (w : World) (hs : s.size ≤ 9223372036854775807) (hT : Lib.Utf8Tabs 12 13 w) :
    Calls Tryd.prog 76 #[.string s] w fun e w' => e = .returned (.tuple #[.int .i32 (Lib.decodeLastL s.data.toList).1, .int .i64 (Lib.decodeLastL s.data.toList).2]) ∧ Below w.heap.size w w' := Any.utf8_DecodeLastRuneInString Tryd.lays271 s w hs hT
open Go.RowKit Go.Lib in
theorem Tryd.unicode_is16_white_d (R oR : Nat) (z : Nat) (w : World) (hz : z < 65536) (hz0 : 255 < z) (c6 : w.cell? ⟨R, oR + 6, none⟩ = some (.int .u16 160)) (c7 : w.cell? ⟨R, oR + 7, none⟩ = some (.int .u16 5760)) (c8 : w.cell? ⟨R, oR + 8, none⟩ = some (.int .u16 5600)) (c9 : w.cell? ⟨R, oR + 9, none⟩ = some (.int .u16 8192)) (c10 : w.cell? ⟨R, oR + 10, none⟩ = some (.int .u16 8202)) (c11 : w.cell? ⟨R, oR + 11, none⟩ = some (.int .u16 1)) (c12 : w.cell? ⟨R, oR + 12, none⟩ = some (.int .u16 8232)) (c13 : w.cell? ⟨R, oR + 13, none⟩ = some (.int .u16 8233)) (c14 : w.cell? ⟨R, oR + 14, none⟩ = some (.int .u16 1)) (c15 : w.cell? ⟨R, oR + 15, none⟩ = some (.int .u16 8239)) (c16 : w.cell? ⟨R, oR + 16, none⟩ = some (.int .u16 8287)) (c17 : w.cell? ⟨R, oR + 17, none⟩ = some (.int .u16 48)) (c18 : w.cell? ⟨R, oR + 18, none⟩ = some (.int .u16 12288)) (c19 : w.cell? ⟨R, oR + 19, none⟩ = some (.int .u16 12288)) (c20 : w.cell? ⟨R, oR + 20, none⟩ = some (.int .u16 1)) :
    Calls Tryd.prog 73 #[.slice (some ⟨R, oR + 6, none⟩) 5 5, .int .u16 z] w fun e w' => e = .returned (.bool (Lib.isSpaceR z)) ∧ ∃ q, w' = w.drewN q := Any.unicode_is16_white_d Tryd.lays311 R oR z w hz hz0 c6 c7 c8 c9 c10 c11 c12 c13 c14 c15 c16 c17 c18 c19 c20
open Go.RowKit Go.Lib in
/-- unicode.isExcludingLatin(White_Space, r), r beyond U+00FF or negative. (LAID: no walk: one application.) -/
theorem Tryd.unicode_isExcludingLatin_white_d (T oT R oR : Nat) (r : Int) (w : World) (hlo : -2147483648 ≤ r) (hhi : r ≤ 2147483647) (hr : r < 0 ∨ 255 < r) (h2 : w.cell? ⟨T, oT, none⟩ = some (.slice (some ⟨R, oR, none⟩) 7 7)) (h3 : w.cell? ⟨T, oT + 1, none⟩ = some (.slice none 0 0)) (h4 : w.cell? ⟨T, oT + 2, none⟩ = some (.int .i64 2)) (h5 : ∀ i, i < 21 → w.cell? ⟨R, oR + i, none⟩ = some (.int .u16 (whiteT.getD i 0))) :
    Calls Tryd.prog 63 #[.pointer (some ⟨T, oT, none⟩), .int .i32 r] w fun e w' => e = .returned (.bool (Lib.isSpaceZ r)) ∧ ∃ q, w' = w.drewN q := Any.unicode_isExcludingLatin_white_d Tryd.lays261 T oT R oR r w hlo hhi hr h2 h3 h4 h5
open Go.RowKit Go.Lib in
/-- **unicode.IsSpace AT EVERY int32.** (LAID: no walk: one application.) -/
theorem Tryd.unicode_IsSpace_any_d (r : Int) (w : World) (hlo : -2147483648 ≤ r) (hhi : r ≤ 2147483647) (hW : Lib.WhiteTab 8 w) :
    Calls Tryd.prog 51 #[.int .i32 r] w fun e w' => e = .returned (.bool (Lib.isSpaceZ r)) ∧ ∃ q, w' = w.drewN q := Any.unicode_IsSpace_any_d Tryd.lays199 r w hlo hhi hW
open Go.RowKit Go.Lib in
theorem Tryd.unicode_is16_any (T : Array Rg) (R oR cap : Nat) (z : Nat) (w : World) (hz : z < 65536) (hT : RgTab .u16 R oR T w) (hok : RgOk 65536 T) (hn : T.size ≤ 1000000000) :
    Calls Tryd.prog 73 #[.slice (some ⟨R, oR, none⟩) T.size cap, .int .u16 z] w fun e w' => e = .returned (.bool (is16Go T z)) ∧ ∃ q, w' = w.drewN q := Any.unicode_is16_any Tryd.lays311 T R oR cap z w hz hT hok hn
def Tryd.lays312_ren : Go.Shelf.Ren := ⟨fun | 312 => 74 | n => n, fun | 194 => 122 | 51 => 107 | 4 => 4 | 3 => 3 | 0 => 0 | 227 => 134 | 201 => 130 | 46 => 133 | n => n, fun | n => n⟩
theorem Tryd.lays312 : Go.Proofs.Lays.n312 Tryd.prog Tryd.lays312_ren := {
  mixed := by kernel_rfl
  f312 := Tryd.func74.trans (congrArg some (by kernel_rfl))
  t0 := Tryd.underlying0
  a0 := Tryd.isAgg0
  z0 := Tryd.sizeOf0
  v0 := Tryd.zeroValue0
  t3 := Tryd.underlying3
  a3 := Tryd.isAgg3
  z3 := Tryd.sizeOf3
  v3 := Tryd.zeroValue3
  t4 := Tryd.underlying4
  a4 := Tryd.isAgg4
  z4 := Tryd.sizeOf4
  v4 := Tryd.zeroValue4
  t46 := Tryd.underlying133
  a46 := Tryd.isAgg133
  z46 := Tryd.sizeOf133
  v46 := Tryd.zeroValue133
  t51 := Tryd.underlying107
  a51 := Tryd.isAgg107
  z51 := Tryd.sizeOf107
  v51 := Tryd.zeroValue107
  t194 := Tryd.underlying122
  a194 := Tryd.isAgg122
  z194 := Tryd.sizeOf122
  v194 := Tryd.zeroValue122
  t201 := Tryd.underlying130
  a201 := Tryd.isAgg130
  z201 := Tryd.sizeOf130
  v201 := Tryd.zeroValue130
  t227 := Tryd.underlying134
  a227 := Tryd.isAgg134
  z227 := Tryd.sizeOf134
  v227 := Tryd.zeroValue134 }
open Go.RowKit Go.Lib in
theorem Tryd.unicode_is32_any (T : Array Rg) (R oR cap : Nat) (z : Nat) (w : World) (hz : z < 4294967296) (hT : RgTab .u32 R oR T w) (hok : RgOk 4294967296 T) (hn : T.size ≤ 1000000000) :
    Calls Tryd.prog 74 #[.slice (some ⟨R, oR, none⟩) T.size cap, .int .u32 z] w fun e w' => e = .returned (.bool (is32Go T z)) ∧ Below w.heap.size w w' := Any.unicode_is32_any Tryd.lays312 T R oR cap z w hz hT hok hn
open Go.RowKit Go.Lib in
theorem Tryd.unicode_isExcludingLatin_any (Tb oT : Nat) (T : RTab) (r : Int) (w : World) (hlo : -2147483648 ≤ r) (hhi : r ≤ 2147483647) (hA : RTabAt Tb oT T w) (hok : RTabOk T) :
    Calls Tryd.prog 63 #[.pointer (some ⟨Tb, oT, none⟩), .int .i32 r] w fun e w' => e = .returned (.bool (exclGo T r)) ∧ Below w.heap.size w w' := Any.unicode_isExcludingLatin_any Tryd.lays261 Tb oT T r w hlo hhi hA hok
def Tryd.lays115_ren : Go.Shelf.Ren := ⟨fun | 115 => 54 | n => n, fun | 37 => 34 | 4 => 4 | 9 => 9 | 5 => 5 | n => n, fun | n => n⟩
theorem Tryd.lays115 : Go.Proofs.Lays.n115 Tryd.prog Tryd.lays115_ren := {
  mixed := by kernel_rfl
  f115 := Tryd.func54.trans (congrArg some (by kernel_rfl))
  t4 := Tryd.underlying4
  a4 := Tryd.isAgg4
  z4 := Tryd.sizeOf4
  v4 := Tryd.zeroValue4
  t9 := Tryd.underlying9
  a9 := Tryd.isAgg9
  z9 := Tryd.sizeOf9
  v9 := Tryd.zeroValue9
  t37 := Tryd.underlying34
  a37 := Tryd.isAgg34
  z37 := Tryd.sizeOf34
  v37 := Tryd.zeroValue34 }
open Go.Proofs Go.RowKit Go.Lib in
/-- bytes.Equal, each argument with what 'string(..)' of it gives. (LAID: no walk: one application.) -/
theorem Tryd.bytes_Equal_strs (v1 v2 : Value) (t1 t2 : ByteArray) (w : World) (h1 : (convert 34 9 v1).run Tryd.prog w = .ok (.string t1) w) (h2 : (convert 34 9 v2).run Tryd.prog w = .ok (.string t2) w) :
    Calls Tryd.prog 54 #[v1, v2] w fun e w' => e = .returned (.bool (t1.toList == t2.toList)) ∧ w' = w := Any.bytes_Equal_strs Tryd.lays115 v1 v2 t1 t2 w h1 h2
def Tryd.laysnb116_ren : Go.Shelf.Ren := ⟨fun | 116 => 40 | 115 => 54 | n => n, fun | 37 => 34 | 4 => 4 | 3 => 3 | 9 => 9 | 5 => 5 | n => n, fun | n => n⟩
theorem Tryd.laysnb116 : Go.Proofs.Lays.nb116 Tryd.prog Tryd.laysnb116_ren := {
  mixed := by kernel_rfl
  f115 := Tryd.func54.trans (congrArg some (by kernel_rfl))
  f116 := Tryd.func40.trans (congrArg some (by kernel_rfl))
  t3 := Tryd.underlying3
  a3 := Tryd.isAgg3
  z3 := Tryd.sizeOf3
  v3 := Tryd.zeroValue3
  t4 := Tryd.underlying4
  a4 := Tryd.isAgg4
  z4 := Tryd.sizeOf4
  v4 := Tryd.zeroValue4
  t9 := Tryd.underlying9
  a9 := Tryd.isAgg9
  z9 := Tryd.sizeOf9
  v9 := Tryd.zeroValue9
  t37 := Tryd.underlying34
  a37 := Tryd.isAgg34
  z37 := Tryd.sizeOf34
  v37 := Tryd.zeroValue34
  t5 := Tryd.underlying5
  a5 := Tryd.isAgg5
  z5 := Tryd.sizeOf5
  v5 := Tryd.zeroValue5 }
theorem Tryd.bytes_HasPrefix_e2 (p1 p2 : Option Addr) (n c d : Nat) (w : World) :
    Calls Tryd.prog 40 #[.slice p1 n c, .slice p2 0 d] w fun e w' => e = .returned (.bool true) ∧ w' = w := Any.bytes_HasPrefix_e2 Tryd.laysnb116 p1 p2 n c d w
theorem Tryd.bytes_HasPrefix_e1 (p1 p2 : Option Addr) (c m d : Nat) (hm : 0 < m) (w : World) :
    Calls Tryd.prog 40 #[.slice p1 0 c, .slice p2 m d] w fun e w' => e = .returned (.bool false) ∧ w' = w := Any.bytes_HasPrefix_e1 Tryd.laysnb116 p1 p2 c m d hm w
/-- bytes.HasPrefix: WHOLE: each argument nil, or of no byte at whatever address, or at an address with its cells. (LAID: no walk: one application.) -/
theorem Tryd.bytes_HasPrefix_all (p1 p2 : Option Addr) (n c m d : Nat) (xs ys : List Int) (w : World) (hx : xs.length = n) (hy : ys.length = m) (hnc : n ≤ c) (h1 : Lib.BytesIn w p1 n xs) (h2 : Lib.BytesIn w p2 m ys) :
    Calls Tryd.prog 40 #[.slice p1 n c, .slice p2 m d] w fun e w' => e = .returned (.bool (Lib.hasPrefix (Lib.bytesOf xs) (Lib.bytesOf ys))) ∧ w' = w := Any.bytes_HasPrefix_all Tryd.laysnb116 p1 p2 n c m d xs ys w hx hy hnc h1 h2
def Tryd.laysnb115_ren : Go.Shelf.Ren := ⟨fun | 115 => 54 | n => n, fun | 37 => 34 | 4 => 4 | 9 => 9 | 5 => 5 | n => n, fun | n => n⟩
theorem Tryd.laysnb115 : Go.Proofs.Lays.nb115 Tryd.prog Tryd.laysnb115_ren := {
  mixed := by kernel_rfl
  f115 := Tryd.func54.trans (congrArg some (by kernel_rfl))
  t4 := Tryd.underlying4
  a4 := Tryd.isAgg4
  z4 := Tryd.sizeOf4
  v4 := Tryd.zeroValue4
  t9 := Tryd.underlying9
  a9 := Tryd.isAgg9
  z9 := Tryd.sizeOf9
  v9 := Tryd.zeroValue9
  t37 := Tryd.underlying34
  a37 := Tryd.isAgg34
  z37 := Tryd.sizeOf34
  v37 := Tryd.zeroValue34
  t5 := Tryd.underlying5
  a5 := Tryd.isAgg5
  z5 := Tryd.sizeOf5
  v5 := Tryd.zeroValue5 }
/-- bytes.Equal: WHOLE. (LAID: no walk: one application.) -/
theorem Tryd.bytes_Equal_all (p1 p2 : Option Addr) (n c m d : Nat) (xs ys : List Int) (w : World) (hx : xs.length = n) (hy : ys.length = m) (h1 : Lib.BytesIn w p1 n xs) (h2 : Lib.BytesIn w p2 m ys) :
    Calls Tryd.prog 54 #[.slice p1 n c, .slice p2 m d] w fun e w' => e = .returned (.bool (Lib.bytesOf xs == Lib.bytesOf ys)) ∧ w' = w := Any.bytes_Equal_all Tryd.laysnb115 p1 p2 n c m d xs ys w hx hy h1 h2
/-- bytes.Equal: "Equal reports whether a and b are the same length and contain the same bytes. A nil argument is equivalent to an empty slice.": IT RETURNS 'the bytes of the one == the bytes of the other'; the world is as it was. THE TWO ARGUMENTS COME AS WHATEVER VALUES, each with the one fact that the walk wants of it: what 'string(..)' of it gives: for a slice whose cells you know: 'run_convert_bytes_arg' (Derived/Laws/BytesArg.lean) hands that fact; for a nil one: 'run_convert_bytes_nil' (with xs := []). (LAID: no walk: one application.) -/
theorem Tryd.bytes_Equal (v1 v2 : Value) (xs ys : List Int) (w : World) (h1 : (convert 34 9 v1).run Tryd.prog w = .ok (.string (strOfNums xs)) w) (h2 : (convert 34 9 v2).run Tryd.prog w = .ok (.string (strOfNums ys)) w) :
    Calls Tryd.prog 54 #[v1, v2] w fun e w' => e = .returned (.bool (Lib.bytesOf xs == Lib.bytesOf ys)) ∧ w' = w := Any.bytes_Equal Tryd.lays115 v1 v2 xs ys w h1 h2
/-- bytes.HasPrefix: "HasPrefix reports whether the byte slice s begins with prefix.": IT RETURNS 'Lib.hasPrefix (the bytes of s) (the bytes of prefix)'; the world is as it was. ITS CALLEE bytes.Equal IS MET BY ITS OWN CONTRACT OFF THE SHELF (lay that first). 'xs', 'ys': the numbers that the two slices' cells hold. (LAID: no walk: one application.) -/
theorem Tryd.bytes_HasPrefix (b1 o1 n c b2 o2 m d : Nat) (xs ys : List Int) (w : World) (hx : xs.length = n) (hy : ys.length = m) (hnc : n ≤ c) (hc1 : ∀ i, i < n → w.cell? ⟨b1, o1 + i, none⟩ = some (.int .u8 (xs.getD i 0))) (hc2 : ∀ i, i < m → w.cell? ⟨b2, o2 + i, none⟩ = some (.int .u8 (ys.getD i 0))) :
    Calls Tryd.prog 40 #[.slice (some ⟨b1, o1, none⟩) n c, .slice (some ⟨b2, o2, none⟩) m d] w fun e w' => e = .returned (.bool (Lib.hasPrefix (Lib.bytesOf xs) (Lib.bytesOf ys))) ∧ w' = w := Any.bytes_HasPrefix Tryd.laysnb116 b1 o1 n c b2 o2 m d xs ys w hx hy hnc hc1 hc2
def Tryd.laysbs188_ren : Go.Shelf.Ren := ⟨fun | 188 => 34 | 256 => 50 | 199 => 51 | 293 => 62 | 292 => 61 | 261 => 63 | 327 => 72 | 325 => 70 | 326 => 71 | 311 => 73 | 312 => 74 | 341 => 78 | 342 => 79 | 120 => 80 | n => n, fun | 37 => 34 | 3 => 3 | 0 => 0 | 5 => 5 | 4 => 4 | 40 => 99 | 119 => 100 | 21 => 21 | 51 => 107 | 141 => 109 | 105 => 114 | 196 => 124 | 193 => 121 | 198 => 127 | 49 => 125 | 194 => 122 | 201 => 130 | 226 => 132 | 46 => 133 | 227 => 134 | 139 => 138 | 138 => 137 | n => n, fun | 2 => 2 | 6 => 8 | 3 => 12 | 4 => 13 | n => n⟩
theorem Tryd.laysbs188 : Go.Proofs.Lays.nbs188 Tryd.prog Tryd.laysbs188_ren := {
  mixed := by kernel_rfl
  f120 := Tryd.func80.trans (congrArg some (by kernel_rfl))
  f188 := Tryd.func34.trans (congrArg some (by kernel_rfl))
  f199 := Tryd.func51.trans (congrArg some (by kernel_rfl))
  f256 := Tryd.func50.trans (congrArg some (by kernel_rfl))
  f261 := Tryd.func63.trans (congrArg some (by kernel_rfl))
  f292 := Tryd.func61.trans (congrArg some (by kernel_rfl))
  f293 := Tryd.func62.trans (congrArg some (by kernel_rfl))
  f311 := Tryd.func73.trans (congrArg some (by kernel_rfl))
  f312 := Tryd.func74.trans (congrArg some (by kernel_rfl))
  f325 := Tryd.func70.trans (congrArg some (by kernel_rfl))
  f326 := Tryd.func71.trans (congrArg some (by kernel_rfl))
  f327 := Tryd.func72.trans (congrArg some (by kernel_rfl))
  f341 := Tryd.func78.trans (congrArg some (by kernel_rfl))
  f342 := Tryd.func79.trans (congrArg some (by kernel_rfl))
  t0 := Tryd.underlying0
  a0 := Tryd.isAgg0
  z0 := Tryd.sizeOf0
  v0 := Tryd.zeroValue0
  t3 := Tryd.underlying3
  a3 := Tryd.isAgg3
  z3 := Tryd.sizeOf3
  v3 := Tryd.zeroValue3
  t4 := Tryd.underlying4
  a4 := Tryd.isAgg4
  z4 := Tryd.sizeOf4
  v4 := Tryd.zeroValue4
  t5 := Tryd.underlying5
  a5 := Tryd.isAgg5
  z5 := Tryd.sizeOf5
  v5 := Tryd.zeroValue5
  t21 := Tryd.underlying21
  a21 := Tryd.isAgg21
  z21 := Tryd.sizeOf21
  v21 := Tryd.zeroValue21
  t37 := Tryd.underlying34
  a37 := Tryd.isAgg34
  z37 := Tryd.sizeOf34
  v37 := Tryd.zeroValue34
  t40 := Tryd.underlying99
  a40 := Tryd.isAgg99
  z40 := Tryd.sizeOf99
  v40 := Tryd.zeroValue99
  t46 := Tryd.underlying133
  a46 := Tryd.isAgg133
  z46 := Tryd.sizeOf133
  v46 := Tryd.zeroValue133
  t49 := Tryd.underlying125
  a49 := Tryd.isAgg125
  z49 := Tryd.sizeOf125
  v49 := Tryd.zeroValue125
  t51 := Tryd.underlying107
  a51 := Tryd.isAgg107
  z51 := Tryd.sizeOf107
  v51 := Tryd.zeroValue107
  t105 := Tryd.underlying114
  a105 := Tryd.isAgg114
  z105 := Tryd.sizeOf114
  v105 := Tryd.zeroValue114
  t119 := Tryd.underlying100
  a119 := Tryd.isAgg100
  z119 := Tryd.sizeOf100
  t138 := Tryd.underlying137
  a138 := Tryd.isAgg137
  z138 := Tryd.sizeOf137
  v138 := Tryd.zeroValue137
  t139 := Tryd.underlying138
  a139 := Tryd.isAgg138
  z139 := Tryd.sizeOf138
  v139 := Tryd.zeroValue138
  t141 := Tryd.underlying109
  a141 := Tryd.isAgg109
  z141 := Tryd.sizeOf109
  v141 := Tryd.zeroValue109
  t193 := Tryd.underlying121
  a193 := Tryd.isAgg121
  z193 := Tryd.sizeOf121
  v193 := Tryd.zeroValue121
  t194 := Tryd.underlying122
  a194 := Tryd.isAgg122
  z194 := Tryd.sizeOf122
  v194 := Tryd.zeroValue122
  t196 := Tryd.underlying124
  a196 := Tryd.isAgg124
  z196 := Tryd.sizeOf124
  v196 := Tryd.zeroValue124
  t198 := Tryd.underlying127
  a198 := Tryd.isAgg127
  z198 := Tryd.sizeOf127
  v198 := Tryd.zeroValue127
  t201 := Tryd.underlying130
  a201 := Tryd.isAgg130
  z201 := Tryd.sizeOf130
  v201 := Tryd.zeroValue130
  t226 := Tryd.underlying132
  a226 := Tryd.isAgg132
  z226 := Tryd.sizeOf132
  v226 := Tryd.zeroValue132
  t227 := Tryd.underlying134
  a227 := Tryd.isAgg134
  z227 := Tryd.sizeOf134
  v227 := Tryd.zeroValue134
  g2 := by kernel_rfl
  g3 := by kernel_rfl
  g4 := by kernel_rfl
  g6 := by kernel_rfl
  gNamed := by kernel_rfl }
open Go.RowKit in
/-- bytes.TrimSpace: "TrimSpace returns a subslice of s by slicing off all leading and trailing white space, as defined by Unicode.": ON ASCII BYTES ('hascii': each number below 128): IT RETURNS 'Lib.bytesTrimSpace b o c (the bytes of s)': a slice OF THE ARGUMENT's OWN MEMORY, nil where all is white space; the world is as it was. 'htab': the table bytes.asciiSpace holds its numbers (as strings.TrimSpace's contract asks of its own). (LAID: no walk: one application.) -/
theorem Tryd.bytes_TrimSpace (b o n c : Nat) (xs : List Int) (w : World) (hx : xs.length = n) (hnc : n ≤ c) (hbig : n ≤ 9223372036854775807) (hc : ∀ i, i < n → w.cell? ⟨b, o + i, none⟩ = some (.int .u8 (xs.getD i 0))) (hascii : ∀ i, i < n → 0 ≤ xs.getD i 0 ∧ xs.getD i 0 < 128) (htab : Lib.TabIs Tryd.prog w "bytes.asciiSpace" .u8 Lib.asciiSpaceTab) :
    Calls Tryd.prog 34 #[.slice (some ⟨b, o, none⟩) n c] w fun e w' => e = .returned (Lib.bytesTrimSpace b o c (Lib.bytesOf xs)) ∧ w' = w := Any.bytes_TrimSpace Tryd.laysbs188 b o n c xs w hx hnc hbig hc hascii htab
def Tryd.lays188_ren : Go.Shelf.Ren := ⟨fun | 188 => 34 | 256 => 50 | 199 => 51 | 293 => 62 | 292 => 61 | 261 => 63 | 327 => 72 | 325 => 70 | 326 => 71 | 311 => 73 | 312 => 74 | 341 => 78 | 342 => 79 | 120 => 80 | n => n, fun | 37 => 34 | 3 => 3 | 0 => 0 | 5 => 5 | 4 => 4 | 40 => 99 | 119 => 100 | 21 => 21 | 51 => 107 | 141 => 109 | 105 => 114 | 196 => 124 | 193 => 121 | 198 => 127 | 49 => 125 | 194 => 122 | 201 => 130 | 226 => 132 | 46 => 133 | 227 => 134 | 139 => 138 | 138 => 137 | n => n, fun | 2 => 2 | 6 => 8 | 3 => 12 | 4 => 13 | n => n⟩
theorem Tryd.lays188 : Go.Proofs.Lays.n188 Tryd.prog Tryd.lays188_ren := {
  mixed := by kernel_rfl
  f120 := Tryd.func80.trans (congrArg some (by kernel_rfl))
  f188 := Tryd.func34.trans (congrArg some (by kernel_rfl))
  f199 := Tryd.func51.trans (congrArg some (by kernel_rfl))
  f256 := Tryd.func50.trans (congrArg some (by kernel_rfl))
  f261 := Tryd.func63.trans (congrArg some (by kernel_rfl))
  f292 := Tryd.func61.trans (congrArg some (by kernel_rfl))
  f293 := Tryd.func62.trans (congrArg some (by kernel_rfl))
  f311 := Tryd.func73.trans (congrArg some (by kernel_rfl))
  f312 := Tryd.func74.trans (congrArg some (by kernel_rfl))
  f325 := Tryd.func70.trans (congrArg some (by kernel_rfl))
  f326 := Tryd.func71.trans (congrArg some (by kernel_rfl))
  f327 := Tryd.func72.trans (congrArg some (by kernel_rfl))
  f341 := Tryd.func78.trans (congrArg some (by kernel_rfl))
  f342 := Tryd.func79.trans (congrArg some (by kernel_rfl))
  t0 := Tryd.underlying0
  a0 := Tryd.isAgg0
  z0 := Tryd.sizeOf0
  v0 := Tryd.zeroValue0
  t3 := Tryd.underlying3
  a3 := Tryd.isAgg3
  z3 := Tryd.sizeOf3
  v3 := Tryd.zeroValue3
  t4 := Tryd.underlying4
  a4 := Tryd.isAgg4
  z4 := Tryd.sizeOf4
  v4 := Tryd.zeroValue4
  t5 := Tryd.underlying5
  a5 := Tryd.isAgg5
  z5 := Tryd.sizeOf5
  v5 := Tryd.zeroValue5
  t21 := Tryd.underlying21
  a21 := Tryd.isAgg21
  z21 := Tryd.sizeOf21
  v21 := Tryd.zeroValue21
  t37 := Tryd.underlying34
  a37 := Tryd.isAgg34
  z37 := Tryd.sizeOf34
  v37 := Tryd.zeroValue34
  t40 := Tryd.underlying99
  a40 := Tryd.isAgg99
  z40 := Tryd.sizeOf99
  v40 := Tryd.zeroValue99
  t46 := Tryd.underlying133
  a46 := Tryd.isAgg133
  z46 := Tryd.sizeOf133
  v46 := Tryd.zeroValue133
  t49 := Tryd.underlying125
  a49 := Tryd.isAgg125
  z49 := Tryd.sizeOf125
  v49 := Tryd.zeroValue125
  t51 := Tryd.underlying107
  a51 := Tryd.isAgg107
  z51 := Tryd.sizeOf107
  v51 := Tryd.zeroValue107
  t105 := Tryd.underlying114
  a105 := Tryd.isAgg114
  z105 := Tryd.sizeOf114
  v105 := Tryd.zeroValue114
  t119 := Tryd.underlying100
  a119 := Tryd.isAgg100
  z119 := Tryd.sizeOf100
  t138 := Tryd.underlying137
  a138 := Tryd.isAgg137
  z138 := Tryd.sizeOf137
  v138 := Tryd.zeroValue137
  t139 := Tryd.underlying138
  a139 := Tryd.isAgg138
  z139 := Tryd.sizeOf138
  v139 := Tryd.zeroValue138
  t141 := Tryd.underlying109
  a141 := Tryd.isAgg109
  z141 := Tryd.sizeOf109
  v141 := Tryd.zeroValue109
  t193 := Tryd.underlying121
  a193 := Tryd.isAgg121
  z193 := Tryd.sizeOf121
  v193 := Tryd.zeroValue121
  t194 := Tryd.underlying122
  a194 := Tryd.isAgg122
  z194 := Tryd.sizeOf122
  v194 := Tryd.zeroValue122
  t196 := Tryd.underlying124
  a196 := Tryd.isAgg124
  z196 := Tryd.sizeOf124
  v196 := Tryd.zeroValue124
  t198 := Tryd.underlying127
  a198 := Tryd.isAgg127
  z198 := Tryd.sizeOf127
  v198 := Tryd.zeroValue127
  t201 := Tryd.underlying130
  a201 := Tryd.isAgg130
  z201 := Tryd.sizeOf130
  v201 := Tryd.zeroValue130
  t226 := Tryd.underlying132
  a226 := Tryd.isAgg132
  z226 := Tryd.sizeOf132
  v226 := Tryd.zeroValue132
  t227 := Tryd.underlying134
  a227 := Tryd.isAgg134
  z227 := Tryd.sizeOf134
  v227 := Tryd.zeroValue134
  g2 := by kernel_rfl
  g3 := by kernel_rfl
  g4 := by kernel_rfl
  g6 := by kernel_rfl }
open Go.RowKit in
/-- bytes.TrimSpace AT nil: nil. (LAID: no walk: one application.) -/
theorem Tryd.bytes_TrimSpace_nil (w : World) :
    Calls Tryd.prog 34 #[.slice none 0 0] w fun e w' => e = .returned (.slice none 0 0) ∧ w' = w := Any.bytes_TrimSpace_nil Tryd.lays188 w
end Go.Proofs
