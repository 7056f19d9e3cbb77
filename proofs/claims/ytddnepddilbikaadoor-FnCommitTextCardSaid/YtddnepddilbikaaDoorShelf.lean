/-
  DERIVED: THE SHELF's CONTRACTS AT THIS DUMP, IN PLAIN WORDS (tools/lay-plain.mjs out of 'TrydShelf.lean', which tools/lay-shelf.mjs wrote): THE SAME DECLARATIONS UNDER THE SAME NAMES: 'import', 'namespace', 'open', 'def', 'theorem' AND NOTHING ELSE: no command of the shelf's: FOR A HAND-IN. Each laying: the table of numbers ('.._ren') and one theorem, a field a fact of the dump's own or the kernel's comparison; each contract: ONE APPLICATION.
-/
import Derived.Shelf.Strings.Builder1
import Derived.Shelf.Strings.Builder2
import Derived.Shelf.Strings.OnBuilder
import Derived.Shelf.Small.Strs
import Derived.Shelf.Strings.BuilderF
import Derived.Shelf.Strings.BuilderK
import Derived.Ground.PaProg
import Derived.Shelf.Hex.Tagged
import Derived.Shelf.Strings.Builder2Cap
import Derived.Shelf.Strconv.Itoa0
import Derived.Shelf.Strconv.Itoa1
import Derived.Shelf.LaysM
import Derived.Shelf.Strconv.Itoa2
import Derived.Shelf.Strconv.Itoa3
import Derived.Shelf.Strconv.Itoa4
import Derived.Shelf.Strings.Search1
import Derived.Shelf.Strings.BuilderCap
import Derived.Shelf.Hex.Lens
import Derived.Shelf.Hex.Encode
import Derived.Shelf.Hex.Decode
import Derived.Shelf.Hex.DecodeOwns
import Derived.Shelf.Hex.More
import Derived.Test.YtddnepddilbikaaDoorProg
namespace Go.Proofs
open Go.Shelf
def Tryd.lays156_ren : Go.Shelf.Ren := ⟨fun | 156 => 71 | 165 => 84 | 166 => 85 | 169 => 86 | 240 => 98 | 241 => 99 | 276 => 105 | 277 => 106 | n => n, fun | 31 => 36 | 9 => 9 | 3 => 3 | 4 => 4 | 0 => 0 | 20 => 20 | 72 => 167 | 76 => 107 | 70 => 165 | 37 => 24 | 75 => 63 | 127 => 179 | 164 => 181 | 5 => 5 | 80 => 147 | n => n, fun | n => n⟩
theorem Tryd.lays156 : Go.Proofs.Lays.n156 Tryd.prog Tryd.lays156_ren := {
  mixed := by kernel_rfl
  f156 := Tryd.func71.trans (congrArg some (by kernel_rfl))
  f165 := Tryd.func84.trans (congrArg some (by kernel_rfl))
  f166 := Tryd.func85.trans (congrArg some (by kernel_rfl))
  f169 := Tryd.func86.trans (congrArg some (by kernel_rfl))
  f240 := Tryd.func98.trans (congrArg some (by kernel_rfl))
  f241 := Tryd.func99.trans (congrArg some (by kernel_rfl))
  f276 := Tryd.func105.trans (congrArg some (by kernel_rfl))
  f277 := Tryd.func106.trans (congrArg some (by kernel_rfl))
  t0 := Tryd.underlying0
  a0 := Tryd.isAgg0
  z0 := Tryd.sizeOf0
  v0 := Tryd.zeroValue0
  t3 := Tryd.underlying3
  a3 := Tryd.isAgg3
  z3 := Tryd.sizeOf3
  v3 := Tryd.zeroValue3
  t4 := Tryd.underlying4
  a4 := Tryd.isAgg4
  z4 := Tryd.sizeOf4
  v4 := Tryd.zeroValue4
  t9 := Tryd.underlying9
  a9 := Tryd.isAgg9
  z9 := Tryd.sizeOf9
  v9 := Tryd.zeroValue9
  t20 := Tryd.underlying20
  a20 := Tryd.isAgg20
  z20 := Tryd.sizeOf20
  v20 := Tryd.zeroValue20
  t31 := Tryd.underlying36
  a31 := Tryd.isAgg36
  z31 := Tryd.sizeOf36
  v31 := Tryd.zeroValue36
  t37 := Tryd.underlying24
  a37 := Tryd.isAgg24
  z37 := Tryd.sizeOf24
  v37 := Tryd.zeroValue24
  t70 := Tryd.underlying165
  a70 := Tryd.isAgg165
  z70 := Tryd.sizeOf165
  v70 := Tryd.zeroValue165
  t72 := Tryd.underlying167
  a72 := Tryd.isAgg167
  z72 := Tryd.sizeOf167
  v72 := Tryd.zeroValue167
  t75 := Tryd.underlying63
  a75 := Tryd.isAgg63
  z75 := Tryd.sizeOf63
  v75 := Tryd.zeroValue63
  t76 := Tryd.underlying107
  a76 := Tryd.isAgg107
  z76 := Tryd.sizeOf107
  v76 := Tryd.zeroValue107
  t127 := Tryd.underlying179
  a127 := Tryd.isAgg179
  z127 := Tryd.sizeOf179
  v127 := Tryd.zeroValue179
  t164 := Tryd.underlying181
  a164 := Tryd.isAgg181
  z164 := Tryd.sizeOf181
  v164 := Tryd.zeroValue181 }
theorem Tryd.Builder_Extra_156 : Builder.Extra Tryd.prog Tryd.lays156_ren := {
  sizeBuilder := by kernel_rfl
  liesBuilder := by kernel_rfl
  t5 := Tryd.underlying5
  a5 := Tryd.isAgg5
  z5 := Tryd.sizeOf5
  v5 := Tryd.zeroValue5
  infoByte := by kernel_rfl
  cellsByte := by kernel_rfl
  sizeByte := by kernel_rfl
  neB5 := by decide }
open Go.RowKit in
/-- No element: the empty string; the world is as it was. (Whatever the slice's address and capacity: a nil slice too.) (LAID: no walk: one application.) -/
theorem Tryd.strings_Join_none (a : Option Addr) (c : Nat) (sep : ByteArray) (w : World) :
    Calls Tryd.prog 71 #[.slice a 0 c, .string sep] w fun e w' => e = .returned (.string ⟨#[]⟩) ∧ w' = w := Any.strings_Join_none Tryd.lays156 Tryd.Builder_Extra_156 a c sep w
open Go.RowKit in
/-- strings.Join: "Join concatenates the elements of its first argument to create a single string. The separator string sep is placed between elements in the resulting string.": HOWEVER MANY ELEMENTS. Below the heap's end the world is as it was. (LAID: no walk: one application.) -/
theorem Tryd.strings_Join (bk o c : Nat) (xs : List ByteArray) (sep : ByteArray) (w : World) (hcells : ∀ (j : Nat) x, xs[j]? = some x → w.cell? ⟨bk, o + j, none⟩ = some (.string x)) (hbk : bk < w.heap.size) (hN : xs.length ≤ 140737488355328) (hcap : xs.length ≤ c) (hlen : (Lib.join (xs.map (·.data.toList)) sep.data.toList).length ≤ 140737488355328) :
    Calls Tryd.prog 71 #[.slice (some ⟨bk, o, none⟩) xs.length c, .string sep] w fun e w' => e = .returned (.string ⟨(Lib.join (xs.map (·.data.toList)) sep.data.toList).toArray⟩) ∧ Below w.heap.size w w' := Any.strings_Join Tryd.lays156 Tryd.Builder_Extra_156 bk o c xs sep w hcells hbk hN hcap hlen
def Tryd.lays171_ren : Go.Shelf.Ren := ⟨fun | 171 => 104 | 243 => 107 | 246 => 102 | 283 => 75 | 284 => 76 | 285 => 77 | 286 => 78 | 129 => 88 | 317 => 87 | 318 => 89 | 319 => 90 | 320 => 91 | 337 => 100 | 338 => 101 | n => n, fun | 3 => 3 | 9 => 9 | 2 => 2 | 4 => 4 | 171 => 155 | 0 => 0 | 53 => 110 | 37 => 24 | 5 => 5 | 173 => 158 | 212 => 170 | 51 => 42 | 20 => 20 | 213 => 171 | 46 => 119 | 232 => 184 | 233 => 185 | n => n, fun | 17 => 4 | 18 => 5 | 19 => 6 | n => n⟩
theorem Tryd.lays171 : Go.Proofs.Lays.n171 Tryd.prog Tryd.lays171_ren := {
  mixed := by kernel_rfl
  f129 := Tryd.func88.trans (congrArg some (by kernel_rfl))
  f171 := Tryd.func104.trans (congrArg some (by kernel_rfl))
  f243 := Tryd.func107.trans (congrArg some (by kernel_rfl))
  f246 := Tryd.func102.trans (congrArg some (by kernel_rfl))
  f283 := Tryd.func75.trans (congrArg some (by kernel_rfl))
  f284 := Tryd.func76.trans (congrArg some (by kernel_rfl))
  f285 := Tryd.func77.trans (congrArg some (by kernel_rfl))
  f286 := Tryd.func78.trans (congrArg some (by kernel_rfl))
  f317 := Tryd.func87.trans (congrArg some (by kernel_rfl))
  f318 := Tryd.func89.trans (congrArg some (by kernel_rfl))
  f319 := Tryd.func90.trans (congrArg some (by kernel_rfl))
  f320 := Tryd.func91.trans (congrArg some (by kernel_rfl))
  f337 := Tryd.func100.trans (congrArg some (by kernel_rfl))
  f338 := Tryd.func101.trans (congrArg some (by kernel_rfl))
  t0 := Tryd.underlying0
  a0 := Tryd.isAgg0
  z0 := Tryd.sizeOf0
  v0 := Tryd.zeroValue0
  t2 := Tryd.underlying2
  a2 := Tryd.isAgg2
  z2 := Tryd.sizeOf2
  v2 := Tryd.zeroValue2
  t3 := Tryd.underlying3
  a3 := Tryd.isAgg3
  z3 := Tryd.sizeOf3
  v3 := Tryd.zeroValue3
  t4 := Tryd.underlying4
  a4 := Tryd.isAgg4
  z4 := Tryd.sizeOf4
  v4 := Tryd.zeroValue4
  t5 := Tryd.underlying5
  a5 := Tryd.isAgg5
  z5 := Tryd.sizeOf5
  v5 := Tryd.zeroValue5
  t9 := Tryd.underlying9
  a9 := Tryd.isAgg9
  z9 := Tryd.sizeOf9
  v9 := Tryd.zeroValue9
  t20 := Tryd.underlying20
  a20 := Tryd.isAgg20
  z20 := Tryd.sizeOf20
  v20 := Tryd.zeroValue20
  t37 := Tryd.underlying24
  a37 := Tryd.isAgg24
  z37 := Tryd.sizeOf24
  v37 := Tryd.zeroValue24
  t46 := Tryd.underlying119
  a46 := Tryd.isAgg119
  z46 := Tryd.sizeOf119
  v46 := Tryd.zeroValue119
  t51 := Tryd.underlying42
  a51 := Tryd.isAgg42
  z51 := Tryd.sizeOf42
  v51 := Tryd.zeroValue42
  t53 := Tryd.underlying110
  a53 := Tryd.isAgg110
  z53 := Tryd.sizeOf110
  v53 := Tryd.zeroValue110
  t171 := Tryd.underlying155
  a171 := Tryd.isAgg155
  z171 := Tryd.sizeOf155
  v171 := Tryd.zeroValue155
  t173 := Tryd.underlying158
  a173 := Tryd.isAgg158
  z173 := Tryd.sizeOf158
  v173 := Tryd.zeroValue158
  t212 := Tryd.underlying170
  a212 := Tryd.isAgg170
  z212 := Tryd.sizeOf170
  v212 := Tryd.zeroValue170
  t213 := Tryd.underlying171
  a213 := Tryd.isAgg171
  z213 := Tryd.sizeOf171
  t232 := Tryd.underlying184
  a232 := Tryd.isAgg184
  z232 := Tryd.sizeOf184
  v232 := Tryd.zeroValue184
  t233 := Tryd.underlying185
  a233 := Tryd.isAgg185
  z233 := Tryd.sizeOf185
  v233 := Tryd.zeroValue185
  g17 := by kernel_rfl
  g18 := by kernel_rfl
  g19 := by kernel_rfl }
open Go.RowKit Go.Sort Go.Lib in
/-- THE ROAD WITHOUT THE TABLE: 0 <= i < 100: NO PREMISE ON THE WORLD, AND THE WORLD IS AS IT WAS: a row that keeps its argument in that range need list no table ('laid = []'). (LAID: no walk: one application.) -/
theorem Tryd.strconv_Itoa_small (i : Nat) (hi : i < 100) (w : World) :
    Calls Tryd.prog 104 #[.int .i64 i] w fun e w' => e = .returned (.string ⟨(Lib.decDigits i).toArray⟩) ∧ w' = w := Any.strconv_Itoa_small Tryd.lays171 i hi w
def Tryd.laysM173_ren : Go.Shelf.Ren := ⟨fun | 173 => 95 | 246 => 102 | 283 => 75 | 284 => 76 | 285 => 77 | 286 => 78 | 129 => 88 | 317 => 87 | 318 => 89 | 319 => 90 | 320 => 91 | 337 => 100 | 338 => 101 | n => n, fun | 2 => 2 | 3 => 3 | 9 => 9 | 4 => 4 | 171 => 155 | 0 => 0 | 53 => 110 | 37 => 24 | 5 => 5 | 173 => 158 | 212 => 170 | 51 => 42 | 20 => 20 | 213 => 171 | 46 => 119 | 232 => 184 | 233 => 185 | n => n, fun | 17 => 4 | 18 => 5 | 19 => 6 | n => n⟩
theorem Tryd.laysM173 : Go.Proofs.LaysM.n173 Tryd.prog Tryd.laysM173_ren := {
  mixed := by kernel_rfl
  f129 := Tryd.func88.trans (congrArg some (by kernel_rfl))
  f173 := Tryd.func95.trans (congrArg some (by kernel_rfl))
  f246 := Tryd.func102.trans (congrArg some (by kernel_rfl))
  f283 := Tryd.func75.trans (congrArg some (by kernel_rfl))
  f284 := Tryd.func76.trans (congrArg some (by kernel_rfl))
  f285 := Tryd.func77.trans (congrArg some (by kernel_rfl))
  f286 := Tryd.func78.trans (congrArg some (by kernel_rfl))
  f317 := Tryd.func87.trans (congrArg some (by kernel_rfl))
  f318 := Tryd.func89.trans (congrArg some (by kernel_rfl))
  f319 := Tryd.func90.trans (congrArg some (by kernel_rfl))
  f320 := Tryd.func91.trans (congrArg some (by kernel_rfl))
  f337 := Tryd.func100.trans (congrArg some (by kernel_rfl))
  f338 := Tryd.func101.trans (congrArg some (by kernel_rfl))
  t0 := Tryd.underlying0
  a0 := Tryd.isAgg0
  z0 := Tryd.sizeOf0
  v0 := Tryd.zeroValue0
  t2 := Tryd.underlying2
  a2 := Tryd.isAgg2
  z2 := Tryd.sizeOf2
  v2 := Tryd.zeroValue2
  t3 := Tryd.underlying3
  a3 := Tryd.isAgg3
  z3 := Tryd.sizeOf3
  v3 := Tryd.zeroValue3
  t4 := Tryd.underlying4
  a4 := Tryd.isAgg4
  z4 := Tryd.sizeOf4
  v4 := Tryd.zeroValue4
  t5 := Tryd.underlying5
  a5 := Tryd.isAgg5
  z5 := Tryd.sizeOf5
  v5 := Tryd.zeroValue5
  t9 := Tryd.underlying9
  a9 := Tryd.isAgg9
  z9 := Tryd.sizeOf9
  v9 := Tryd.zeroValue9
  t20 := Tryd.underlying20
  a20 := Tryd.isAgg20
  z20 := Tryd.sizeOf20
  v20 := Tryd.zeroValue20
  t37 := Tryd.underlying24
  a37 := Tryd.isAgg24
  z37 := Tryd.sizeOf24
  v37 := Tryd.zeroValue24
  t46 := Tryd.underlying119
  a46 := Tryd.isAgg119
  z46 := Tryd.sizeOf119
  v46 := Tryd.zeroValue119
  t51 := Tryd.underlying42
  a51 := Tryd.isAgg42
  z51 := Tryd.sizeOf42
  v51 := Tryd.zeroValue42
  t53 := Tryd.underlying110
  a53 := Tryd.isAgg110
  z53 := Tryd.sizeOf110
  v53 := Tryd.zeroValue110
  t171 := Tryd.underlying155
  a171 := Tryd.isAgg155
  z171 := Tryd.sizeOf155
  v171 := Tryd.zeroValue155
  t173 := Tryd.underlying158
  a173 := Tryd.isAgg158
  z173 := Tryd.sizeOf158
  v173 := Tryd.zeroValue158
  t212 := Tryd.underlying170
  a212 := Tryd.isAgg170
  z212 := Tryd.sizeOf170
  v212 := Tryd.zeroValue170
  t213 := Tryd.underlying171
  a213 := Tryd.isAgg171
  z213 := Tryd.sizeOf171
  t232 := Tryd.underlying184
  a232 := Tryd.isAgg184
  z232 := Tryd.sizeOf184
  v232 := Tryd.zeroValue184
  t233 := Tryd.underlying185
  a233 := Tryd.isAgg185
  z233 := Tryd.sizeOf185
  v233 := Tryd.zeroValue185
  g17 := by kernel_rfl
  g18 := by kernel_rfl
  g19 := by kernel_rfl
  i0 := by kernel_rfl
  i2 := by kernel_rfl
  i3 := by kernel_rfl
  i4 := by kernel_rfl
  i5 := by kernel_rfl
  i9 := by kernel_rfl
  i20 := by kernel_rfl
  i37 := by kernel_rfl
  i46 := by kernel_rfl
  i51 := by kernel_rfl
  i53 := by kernel_rfl
  i171 := by kernel_rfl
  i173 := by kernel_rfl
  i212 := by kernel_rfl
  i232 := by kernel_rfl
  i233 := by kernel_rfl
  m17 := by kernel_rfl
  m18 := by kernel_rfl
  m19 := by kernel_rfl }
open Go.RowKit Go.Sort Go.Lib in
/-- strconv.FormatInt: "FormatInt returns the string representation of i in the given base": AT BASE 10: i's decimal numeral, for every int64. (LAID: no walk: one application.) -/
theorem Tryd.strconv_FormatInt_10 (n : Int) (h0 : -9223372036854775808 ≤ n) (h1 : n ≤ 9223372036854775807) (w : World) (htab : Lib.TabIs Tryd.prog w "internal/strconv.uint64pow10" .u64 Lib.pow10Tab) :
    Calls Tryd.prog 95 #[.int .i64 n, .int .i64 10] w fun e w' => e = .returned (.string ⟨(Lib.itoa n).toArray⟩) ∧ ∃ k os, w' = grow (w.drewN k) os := Any.strconv_FormatInt_10 Tryd.laysM173 n h0 h1 w htab
def Tryd.laysPah39_ren : Go.Shelf.Ren := ⟨fun | 39 => 79 | 41 => 92 | 40 => 93 | n => n, fun | 30 => 24 | 9 => 9 | 3 => 3 | 0 => 0 | 5 => 5 | 46 => 119 | n => n, fun | n => n⟩
theorem Tryd.laysPah39 : Go.Proofs.Lays.ph39 Tryd.prog Tryd.laysPah39_ren := {
  mixed := by kernel_rfl
  f39 := Tryd.func79.trans (congrArg some (by kernel_rfl))
  f40 := Tryd.func93.trans (congrArg some (by kernel_rfl))
  f41 := Tryd.func92.trans (congrArg some (by kernel_rfl))
  t0 := Tryd.underlying0
  a0 := Tryd.isAgg0
  z0 := Tryd.sizeOf0
  v0 := Tryd.zeroValue0
  t3 := Tryd.underlying3
  a3 := Tryd.isAgg3
  z3 := Tryd.sizeOf3
  v3 := Tryd.zeroValue3
  t5 := Tryd.underlying5
  a5 := Tryd.isAgg5
  z5 := Tryd.sizeOf5
  v5 := Tryd.zeroValue5
  t9 := Tryd.underlying9
  a9 := Tryd.isAgg9
  z9 := Tryd.sizeOf9
  v9 := Tryd.zeroValue9
  t30 := Tryd.underlying24
  a30 := Tryd.isAgg24
  z30 := Tryd.sizeOf24
  v30 := Tryd.zeroValue24
  t46 := Tryd.underlying119
  a46 := Tryd.isAgg119
  z46 := Tryd.sizeOf119
  v46 := Tryd.zeroValue119
  info5 := by kernel_rfl }
open Go.RowKit Go.Lib in
/-- encoding/hex.EncodeToString: "EncodeToString returns the hexadecimal encoding of src.": src: n cells holding the numbers xs, each a byte's. IT RETURNS THE STRING OF 'Hx.encode (the bytes of src)'; what was there before the call is as it was ('Below': the call lays one new block). IT ASKS 2 * n ≤ 2^48 (makeslice's own limit). (LAID: no walk: one application.) -/
theorem Tryd.hex_EncodeToString (bs os n cs : Nat) (xs : List Int) (w : World) (hx : xs.length = n) (hr : ∀ i, i < n → 0 ≤ xs.getD i 0 ∧ xs.getD i 0 < 256) (hsrc : ∀ i, i < n → w.cell? ⟨bs, os + i, none⟩ = some (.int .u8 (xs.getD i 0))) (hb : bs < w.heap.size) (hbig : 2 * n ≤ 281474976710656) :
    Calls Tryd.prog 79 #[.slice (some ⟨bs, os, none⟩) n cs] w fun e w' => e = .returned (.string ⟨(Hx.encode (Lib.bytesOf xs)).toArray⟩) ∧ Below w.heap.size w w' := Any.hex_EncodeToString Tryd.laysPah39 bs os n cs xs w hx hr hsrc hb hbig
def Tryd.laysPah43_ren : Go.Shelf.Ren := ⟨fun | 43 => 52 | 42 => 62 | 44 => 63 | n => n, fun | 9 => 9 | 30 => 24 | 35 => 63 | 3 => 3 | 38 => 107 | 4 => 4 | 0 => 0 | 5 => 5 | 47 => 160 | 46 => 119 | 45 => 147 | n => n, fun | 0 => 2 | n => n⟩
theorem Tryd.laysPah43 : Go.Proofs.Lays.ph43 Tryd.prog Tryd.laysPah43_ren := {
  mixed := by kernel_rfl
  f42 := Tryd.func62.trans (congrArg some (by kernel_rfl))
  f43 := Tryd.func52.trans (congrArg some (by kernel_rfl))
  f44 := Tryd.func63.trans (congrArg some (by kernel_rfl))
  t0 := Tryd.underlying0
  a0 := Tryd.isAgg0
  z0 := Tryd.sizeOf0
  v0 := Tryd.zeroValue0
  t3 := Tryd.underlying3
  a3 := Tryd.isAgg3
  z3 := Tryd.sizeOf3
  v3 := Tryd.zeroValue3
  t4 := Tryd.underlying4
  a4 := Tryd.isAgg4
  z4 := Tryd.sizeOf4
  v4 := Tryd.zeroValue4
  t5 := Tryd.underlying5
  a5 := Tryd.isAgg5
  z5 := Tryd.sizeOf5
  v5 := Tryd.zeroValue5
  t9 := Tryd.underlying9
  a9 := Tryd.isAgg9
  z9 := Tryd.sizeOf9
  v9 := Tryd.zeroValue9
  t30 := Tryd.underlying24
  a30 := Tryd.isAgg24
  z30 := Tryd.sizeOf24
  v30 := Tryd.zeroValue24
  t35 := Tryd.underlying63
  a35 := Tryd.isAgg63
  z35 := Tryd.sizeOf63
  v35 := Tryd.zeroValue63
  t38 := Tryd.underlying107
  a38 := Tryd.isAgg107
  z38 := Tryd.sizeOf107
  v38 := Tryd.zeroValue107
  t45 := Tryd.underlying147
  a45 := Tryd.isAgg147
  z45 := Tryd.sizeOf147
  v45 := Tryd.zeroValue147
  t46 := Tryd.underlying119
  a46 := Tryd.isAgg119
  z46 := Tryd.sizeOf119
  v46 := Tryd.zeroValue119
  t47 := Tryd.underlying160
  a47 := Tryd.isAgg160
  z47 := Tryd.sizeOf160
  v47 := Tryd.zeroValue160
  g0 := by kernel_rfl
  info5 := by kernel_rfl }
open Go.RowKit Go.Lib in
/-- encoding/hex.DecodeString, FOR EVERY s: "DecodeString returns the bytes represented by the hexadecimal string s. DecodeString expects that src contains only hexadecimal characters and that src has even length. If the input is malformed, DecodeString returns the bytes decoded before the error.": 'ev': what the variable encoding/hex.ErrLength holds. IT RETURNS (a slice at the head of A NEW BLOCK, the first that the call lays, of as many bytes as 'Hx.decode s' gives, capacity len(s) / 2; the error by how the decoding ends: nil ¦ InvalidByteError(c) ¦ ErrLength's content); THAT BLOCK IS A ROW WHICH HOLDS THOSE BYTES ('Hx.rowP'); what was there before the call is as it was ('Below'). IT ASKS len(s) ≤ 2^48. (LAID: no walk: one application.) -/
theorem Tryd.hex_DecodeString (s : ByteArray) (w : World) (ev : Value) (hE : w.cell? ⟨2, 0, none⟩ = some ev) (hbig : s.size ≤ 281474976710656) :
    Calls Tryd.prog 52 #[.string s] w fun e w' =>
      e = .returned (.tuple #[.slice (some ⟨w.heap.size, 0, none⟩) (Hx.decode s.data.toList).1.length (s.size / 2), Hx.errVal 160 ev (Hx.decode s.data.toList).2]) ∧
      w'.rowIs w.heap.size 5 (s.size / 2) (Hx.rowP (fun _ => .int .u8 0) 0 (Hx.decode s.data.toList).1) ∧ Below w.heap.size w w' := Any.hex_DecodeString Tryd.laysPah43 s w ev hE hbig
end Go.Proofs
