/-
  DERIVED: THE SHELF's CONTRACTS AT THIS DUMP, IN PLAIN WORDS (tools/lay-plain.mjs out of 'TrydShelf.lean', which tools/lay-shelf.mjs wrote): THE SAME DECLARATIONS UNDER THE SAME NAMES: 'import', 'namespace', 'open', 'def', 'theorem' AND NOTHING ELSE: no command of the shelf's: FOR A HAND-IN. Each laying: the table of numbers ('.._ren') and one theorem, a field a fact of the dump's own or the kernel's comparison; each contract: ONE APPLICATION.
-/
import Derived.Shelf.Strings.Fold
import Derived.Shelf.Unicode.Decode
import Derived.Shelf.Unicode.DecodeSlow
import Derived.Shelf.Unicode.DecodeAny
import Derived.Shelf.Unicode.CaseLookup
import Derived.Shelf.Unicode.CaseConvert
import Derived.Test.YtacndeejapfkiaaDoorProg
namespace Go.Proofs
open Go.Shelf
def Tryd.lays164_ren : Go.Shelf.Ren := ⟨fun | 164 => 48 | 197 => 51 | 239 => 52 | 260 => 53 | 274 => 54 | 275 => 55 | n => n, fun | 9 => 9 | 4 => 4 | 3 => 3 | 5 => 5 | 0 => 0 | 21 => 21 | 105 => 87 | 156 => 91 | 49 => 90 | 157 => 92 | 46 => 93 | 159 => 95 | 162 => 98 | 160 => 96 | 119 => 100 | 139 => 103 | 138 => 102 | 208 => 108 | 51 => 104 | 206 => 106 | n => n, fun | 11 => 0 | 12 => 1 | 13 => 2 | 3 => 3 | 4 => 4 | n => n⟩
theorem Tryd.lays164 : Go.Proofs.Lays.n164 Tryd.prog Tryd.lays164_ren := {
  mixed := by kernel_rfl
  f164 := Tryd.func48.trans (congrArg some (by kernel_rfl))
  f197 := Tryd.func51.trans (congrArg some (by kernel_rfl))
  f239 := Tryd.func52.trans (congrArg some (by kernel_rfl))
  f260 := Tryd.func53.trans (congrArg some (by kernel_rfl))
  f274 := Tryd.func54.trans (congrArg some (by kernel_rfl))
  f275 := Tryd.func55.trans (congrArg some (by kernel_rfl))
  t0 := Tryd.underlying0
  a0 := Tryd.isAgg0
  z0 := Tryd.sizeOf0
  v0 := Tryd.zeroValue0
  t3 := Tryd.underlying3
  a3 := Tryd.isAgg3
  z3 := Tryd.sizeOf3
  v3 := Tryd.zeroValue3
  t4 := Tryd.underlying4
  a4 := Tryd.isAgg4
  z4 := Tryd.sizeOf4
  v4 := Tryd.zeroValue4
  t5 := Tryd.underlying5
  a5 := Tryd.isAgg5
  z5 := Tryd.sizeOf5
  v5 := Tryd.zeroValue5
  t9 := Tryd.underlying9
  a9 := Tryd.isAgg9
  z9 := Tryd.sizeOf9
  v9 := Tryd.zeroValue9
  t21 := Tryd.underlying21
  a21 := Tryd.isAgg21
  z21 := Tryd.sizeOf21
  v21 := Tryd.zeroValue21
  t46 := Tryd.underlying93
  a46 := Tryd.isAgg93
  z46 := Tryd.sizeOf93
  v46 := Tryd.zeroValue93
  t49 := Tryd.underlying90
  a49 := Tryd.isAgg90
  z49 := Tryd.sizeOf90
  v49 := Tryd.zeroValue90
  t51 := Tryd.underlying104
  a51 := Tryd.isAgg104
  z51 := Tryd.sizeOf104
  v51 := Tryd.zeroValue104
  t105 := Tryd.underlying87
  a105 := Tryd.isAgg87
  z105 := Tryd.sizeOf87
  v105 := Tryd.zeroValue87
  t119 := Tryd.underlying100
  a119 := Tryd.isAgg100
  z119 := Tryd.sizeOf100
  t138 := Tryd.underlying102
  a138 := Tryd.isAgg102
  z138 := Tryd.sizeOf102
  v138 := Tryd.zeroValue102
  t139 := Tryd.underlying103
  a139 := Tryd.isAgg103
  z139 := Tryd.sizeOf103
  v139 := Tryd.zeroValue103
  t156 := Tryd.underlying91
  a156 := Tryd.isAgg91
  z156 := Tryd.sizeOf91
  t157 := Tryd.underlying92
  a157 := Tryd.isAgg92
  z157 := Tryd.sizeOf92
  v157 := Tryd.zeroValue92
  t159 := Tryd.underlying95
  a159 := Tryd.isAgg95
  z159 := Tryd.sizeOf95
  v159 := Tryd.zeroValue95
  t160 := Tryd.underlying96
  a160 := Tryd.isAgg96
  z160 := Tryd.sizeOf96
  v160 := Tryd.zeroValue96
  t162 := Tryd.underlying98
  a162 := Tryd.isAgg98
  z162 := Tryd.sizeOf98
  v162 := Tryd.zeroValue98
  t206 := Tryd.underlying106
  a206 := Tryd.isAgg106
  z206 := Tryd.sizeOf106
  v206 := Tryd.zeroValue106
  t208 := Tryd.underlying108
  a208 := Tryd.isAgg108
  z208 := Tryd.sizeOf108
  v208 := Tryd.zeroValue108
  g3 := by kernel_rfl
  g4 := by kernel_rfl
  g11 := by kernel_rfl
  g12 := by kernel_rfl
  g13 := by kernel_rfl }
open Go.RowKit Go.Lib in
theorem Tryd.strings_EqualFold (s t : ByteArray) (w : World) (hs : s.size < 4294967281) (has : ∀ (j : Nat) b, s.data.toList[j]? = some b → b.toNat < 128) (hat : ∀ (j : Nat) b, t.data.toList[j]? = some b → b.toNat < 128) :
    Calls Tryd.prog 48 #[.string s, .string t] w fun e w' => e = .returned (.bool (Lib.equalFold s.data.toList t.data.toList)) ∧ w' = w := Any.strings_EqualFold Tryd.lays164 s t w hs has hat
def Tryd.lays197_ren : Go.Shelf.Ren := ⟨fun | 197 => 51 | 260 => 53 | n => n, fun | 9 => 9 | 21 => 21 | 3 => 3 | 4 => 4 | 5 => 5 | 105 => 87 | 119 => 100 | 0 => 0 | 46 => 93 | 139 => 103 | 138 => 102 | n => n, fun | 3 => 3 | 4 => 4 | n => n⟩
theorem Tryd.lays197 : Go.Proofs.Lays.n197 Tryd.prog Tryd.lays197_ren := {
  mixed := by kernel_rfl
  f197 := Tryd.func51.trans (congrArg some (by kernel_rfl))
  f260 := Tryd.func53.trans (congrArg some (by kernel_rfl))
  t0 := Tryd.underlying0
  a0 := Tryd.isAgg0
  z0 := Tryd.sizeOf0
  v0 := Tryd.zeroValue0
  t3 := Tryd.underlying3
  a3 := Tryd.isAgg3
  z3 := Tryd.sizeOf3
  v3 := Tryd.zeroValue3
  t4 := Tryd.underlying4
  a4 := Tryd.isAgg4
  z4 := Tryd.sizeOf4
  v4 := Tryd.zeroValue4
  t5 := Tryd.underlying5
  a5 := Tryd.isAgg5
  z5 := Tryd.sizeOf5
  v5 := Tryd.zeroValue5
  t9 := Tryd.underlying9
  a9 := Tryd.isAgg9
  z9 := Tryd.sizeOf9
  v9 := Tryd.zeroValue9
  t21 := Tryd.underlying21
  a21 := Tryd.isAgg21
  z21 := Tryd.sizeOf21
  v21 := Tryd.zeroValue21
  t46 := Tryd.underlying93
  a46 := Tryd.isAgg93
  z46 := Tryd.sizeOf93
  v46 := Tryd.zeroValue93
  t105 := Tryd.underlying87
  a105 := Tryd.isAgg87
  z105 := Tryd.sizeOf87
  v105 := Tryd.zeroValue87
  t119 := Tryd.underlying100
  a119 := Tryd.isAgg100
  z119 := Tryd.sizeOf100
  t138 := Tryd.underlying102
  a138 := Tryd.isAgg102
  z138 := Tryd.sizeOf102
  v138 := Tryd.zeroValue102
  t139 := Tryd.underlying103
  a139 := Tryd.isAgg103
  z139 := Tryd.sizeOf103
  v139 := Tryd.zeroValue103
  g3 := by kernel_rfl
  g4 := by kernel_rfl }
open Go.RowKit Go.Lib in
/-- unicode/utf8.DecodeRuneInString: "DecodeRuneInString is like DecodeRune but its input is a string.": ("DecodeRune unpacks the first UTF-8 encoding in p and returns the rune and its width in bytes."): WHERE s BEGINS WITH AN ASCII BYTE x: (x, 1). (LAID: no walk: one application.) -/
theorem Tryd.utf8_DecodeRuneInString_ascii (s : ByteArray) (x : UInt8) (w : World) (h0 : s.data.toList[0]? = some x) (hx : x.toNat < 128) :
    Calls Tryd.prog 51 #[.string s] w fun e w' => e = .returned (.tuple #[.int .i32 x.toNat, .int .i64 1]) ∧ w' = w := Any.utf8_DecodeRuneInString_ascii Tryd.lays197 s x w h0 hx
def Tryd.lays260_ren : Go.Shelf.Ren := ⟨fun | 260 => 53 | n => n, fun | 9 => 9 | 21 => 21 | 3 => 3 | 4 => 4 | 5 => 5 | 119 => 100 | 0 => 0 | 46 => 93 | 139 => 103 | 138 => 102 | n => n, fun | 3 => 3 | 4 => 4 | n => n⟩
theorem Tryd.lays260 : Go.Proofs.Lays.n260 Tryd.prog Tryd.lays260_ren := {
  mixed := by kernel_rfl
  f260 := Tryd.func53.trans (congrArg some (by kernel_rfl))
  t0 := Tryd.underlying0
  a0 := Tryd.isAgg0
  z0 := Tryd.sizeOf0
  v0 := Tryd.zeroValue0
  t3 := Tryd.underlying3
  a3 := Tryd.isAgg3
  z3 := Tryd.sizeOf3
  v3 := Tryd.zeroValue3
  t4 := Tryd.underlying4
  a4 := Tryd.isAgg4
  z4 := Tryd.sizeOf4
  v4 := Tryd.zeroValue4
  t5 := Tryd.underlying5
  a5 := Tryd.isAgg5
  z5 := Tryd.sizeOf5
  v5 := Tryd.zeroValue5
  t9 := Tryd.underlying9
  a9 := Tryd.isAgg9
  z9 := Tryd.sizeOf9
  v9 := Tryd.zeroValue9
  t21 := Tryd.underlying21
  a21 := Tryd.isAgg21
  z21 := Tryd.sizeOf21
  v21 := Tryd.zeroValue21
  t46 := Tryd.underlying93
  a46 := Tryd.isAgg93
  z46 := Tryd.sizeOf93
  v46 := Tryd.zeroValue93
  t119 := Tryd.underlying100
  a119 := Tryd.isAgg100
  z119 := Tryd.sizeOf100
  t138 := Tryd.underlying102
  a138 := Tryd.isAgg102
  z138 := Tryd.sizeOf102
  v138 := Tryd.zeroValue102
  t139 := Tryd.underlying103
  a139 := Tryd.isAgg103
  z139 := Tryd.sizeOf103
  v139 := Tryd.zeroValue103
  g3 := by kernel_rfl
  g4 := by kernel_rfl }
open Go.RowKit Go.Lib in
theorem Tryd.utf8_decodeRuneInStringSlow (s : ByteArray) (w : World) (hT : Lib.Utf8Tabs 3 4 w) :
    Calls Tryd.prog 53 #[.string s] w fun e w' => e = .returned (.tuple #[.int .i32 (Lib.decodeGo s).1, .int .i64 (Lib.decodeGo s).2]) ∧ Below w.heap.size w w' := Any.utf8_decodeRuneInStringSlow Tryd.lays260 s w hT
open Go.RowKit Go.Lib in
/-- **unicode/utf8.DecodeRuneInString AT EVERY STRING.** (LAID: no walk: one application.) -/
theorem Tryd.utf8_DecodeRuneInString (s : ByteArray) (w : World) (hT : Lib.Utf8Tabs 3 4 w) :
    Calls Tryd.prog 51 #[.string s] w fun e w' => e = .returned (.tuple #[.int .i32 (Lib.decodeGo s).1, .int .i64 (Lib.decodeGo s).2]) ∧ Below w.heap.size w w' := Any.utf8_DecodeRuneInString Tryd.lays197 s w hT
def Tryd.lays274_ren : Go.Shelf.Ren := ⟨fun | 274 => 54 | n => n, fun | 21 => 21 | 162 => 98 | 160 => 96 | 3 => 3 | 4 => 4 | 46 => 93 | 0 => 0 | 208 => 108 | 51 => 104 | 206 => 106 | n => n, fun | n => n⟩
theorem Tryd.lays274 : Go.Proofs.Lays.n274 Tryd.prog Tryd.lays274_ren := {
  mixed := by kernel_rfl
  f274 := Tryd.func54.trans (congrArg some (by kernel_rfl))
  t0 := Tryd.underlying0
  a0 := Tryd.isAgg0
  z0 := Tryd.sizeOf0
  v0 := Tryd.zeroValue0
  t3 := Tryd.underlying3
  a3 := Tryd.isAgg3
  z3 := Tryd.sizeOf3
  v3 := Tryd.zeroValue3
  t4 := Tryd.underlying4
  a4 := Tryd.isAgg4
  z4 := Tryd.sizeOf4
  v4 := Tryd.zeroValue4
  t21 := Tryd.underlying21
  a21 := Tryd.isAgg21
  z21 := Tryd.sizeOf21
  v21 := Tryd.zeroValue21
  t46 := Tryd.underlying93
  a46 := Tryd.isAgg93
  z46 := Tryd.sizeOf93
  v46 := Tryd.zeroValue93
  t51 := Tryd.underlying104
  a51 := Tryd.isAgg104
  z51 := Tryd.sizeOf104
  v51 := Tryd.zeroValue104
  t160 := Tryd.underlying96
  a160 := Tryd.isAgg96
  z160 := Tryd.sizeOf96
  v160 := Tryd.zeroValue96
  t162 := Tryd.underlying98
  a162 := Tryd.isAgg98
  z162 := Tryd.sizeOf98
  v162 := Tryd.zeroValue98
  t208 := Tryd.underlying108
  a208 := Tryd.isAgg108
  z208 := Tryd.sizeOf108
  v208 := Tryd.zeroValue108 }
open Go.RowKit Go.Lib in
theorem Tryd.unicode_lookupCaseRange (T : Array CaseRow) (R oR cap : Nat) (r : Int) (w : World) (hT : CaseTab R oR T w) (hok : CaseOk T) (hn : T.size ≤ 1000000000) :
    Calls Tryd.prog 54 #[.int .i32 r, .slice (some ⟨R, oR, none⟩) T.size cap] w fun e w' =>
      e = .returned (match lookupIdx T r (T.size + 1) 0 T.size with | some i => .pointer (some ⟨R, oR + i * 5, none⟩) | none => .pointer none) ∧ w' = w := Any.unicode_lookupCaseRange Tryd.lays274 T R oR cap r w hT hok hn
def Tryd.lays275_ren : Go.Shelf.Ren := ⟨fun | 275 => 55 | n => n, fun | 3 => 3 | 21 => 21 | 160 => 96 | 0 => 0 | 208 => 108 | 206 => 106 | 4 => 4 | 51 => 104 | n => n, fun | n => n⟩
theorem Tryd.lays275 : Go.Proofs.Lays.n275 Tryd.prog Tryd.lays275_ren := {
  mixed := by kernel_rfl
  f275 := Tryd.func55.trans (congrArg some (by kernel_rfl))
  t0 := Tryd.underlying0
  a0 := Tryd.isAgg0
  z0 := Tryd.sizeOf0
  v0 := Tryd.zeroValue0
  t3 := Tryd.underlying3
  a3 := Tryd.isAgg3
  z3 := Tryd.sizeOf3
  v3 := Tryd.zeroValue3
  t4 := Tryd.underlying4
  a4 := Tryd.isAgg4
  z4 := Tryd.sizeOf4
  v4 := Tryd.zeroValue4
  t21 := Tryd.underlying21
  a21 := Tryd.isAgg21
  z21 := Tryd.sizeOf21
  v21 := Tryd.zeroValue21
  t51 := Tryd.underlying104
  a51 := Tryd.isAgg104
  z51 := Tryd.sizeOf104
  v51 := Tryd.zeroValue104
  t160 := Tryd.underlying96
  a160 := Tryd.isAgg96
  z160 := Tryd.sizeOf96
  v160 := Tryd.zeroValue96
  t206 := Tryd.underlying106
  a206 := Tryd.isAgg106
  z206 := Tryd.sizeOf106
  v206 := Tryd.zeroValue106
  t208 := Tryd.underlying108
  a208 := Tryd.isAgg108
  z208 := Tryd.sizeOf108
  v208 := Tryd.zeroValue108 }
open Go.RowKit Go.Lib in
theorem Tryd.unicode_convertCase (c : Nat) (hc : c < 3) (r : Int) (A o : Nat) (x : CaseRow) (w : World) (hlo : (x.1 : Int) ≤ r) (hhi : r ≤ (x.2.1 : Int)) (hH : x.2.1 < 2147483647) (c0 : w.cell? ⟨A, o, none⟩ = some (.int .u32 x.1)) (cD : w.cell? ⟨A, o + 2 + c, none⟩ = some (.int .i32 (x.delta c))) :
    Calls Tryd.prog 55 #[.int .i64 c, .int .i32 r, .pointer (some ⟨A, o, none⟩)] w fun e w' => e = .returned (.int .i32 (wrap32 (convertR c r x))) ∧ ∃ q, w' = w.drewN q := Any.unicode_convertCase Tryd.lays275 c hc r A o x w hlo hhi hH c0 cD
end Go.Proofs
