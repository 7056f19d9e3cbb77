/-
  NARROWER THAN 'FOR EVERY INPUT', by the rows' own cells (each row's printed sentence says how): FnTreeBytes: ifaces, laid · FnTagText: laid · FnCommitText: laid.
  DERIVED. THE GIVEN ROWS OF THIS SEAT. 3 by the template 'for every input the law returns true; each argument reads behind the call as it read before'; 0 by the template 'total and deterministic' (their statements: YtddnepddilbikaaDoorTotals.lean).
  GIVEN WITH THE SEED: the statements are not yours to turn. If you find one false, say at which input.
  Laid BY PROGRAM, IN A SANDBOX (cutbox-rows.mjs): the forced cells as the released guide's own fill.sh prints them over the translation 23000c351773ca08… (all of the seat's roots in one cut). By AI agents, Wed Nov 11 2026. No macro, syntax, notation, axiom, sorry.
-/
import Derived.Test.YtddnepddilbikaaDoorChecked
import GoSem.Claim
import GoSem.ClaimJoined
import GoSem.ClaimMapViews
import Derived.JoinedTies
import Derived.KernelRfl
namespace Go.Proofs.YtddnepddilbikaaDoor
/- THE CELL 'sum', in the pinned program and in every row, IS THE sha256 OF THE DUMP (.gsa) THAT YtddnepddilbikaaDoorProg.lean LOADS. Nothing in Lean hashes anything: it is a label: what it is worth is what the hold of that sum in a sandbox is worth. -/
noncomputable def Tryd.pinned : Pinned := { name := "ytddnepddilbikaadoor", sum := "23000c351773ca08f54568006b01d5226d23cad03225f6a594dca8dc2318c4ca", checked := Tryd.checked }
namespace Rows
def none {H : Type} : Left H := { results := [], args := [] }

/- WHAT THE LISTED PACKAGE-LEVEL VARIABLES READ AS WHEN THE CALL BEGINS. Each datum BY PROGRAM (the guide's laid-datum.mjs) off the statement by which the dump's own 'gosem.cut.vars' lays the variable. In a bare row this is a premise. The card (YtddnepddilbikaaDoorCards.lean) ties it to the program's text. -/
def laid_math_bits_deBruijn32tab {H : Type} : DataW H := .agg [.lit (.int .u8 0), .lit (.int .u8 1), .lit (.int .u8 28), .lit (.int .u8 2), .lit (.int .u8 29), .lit (.int .u8 14), .lit (.int .u8 24), .lit (.int .u8 3), .lit (.int .u8 30), .lit (.int .u8 22), .lit (.int .u8 20), .lit (.int .u8 15), .lit (.int .u8 25), .lit (.int .u8 17), .lit (.int .u8 4), .lit (.int .u8 8), .lit (.int .u8 31), .lit (.int .u8 27), .lit (.int .u8 13), .lit (.int .u8 23), .lit (.int .u8 21), .lit (.int .u8 19), .lit (.int .u8 16), .lit (.int .u8 7), .lit (.int .u8 26), .lit (.int .u8 12), .lit (.int .u8 18), .lit (.int .u8 6), .lit (.int .u8 11), .lit (.int .u8 5), .lit (.int .u8 10), .lit (.int .u8 9)]
def laid_math_bits_deBruijn64tab {H : Type} : DataW H := .agg [.lit (.int .u8 0), .lit (.int .u8 1), .lit (.int .u8 56), .lit (.int .u8 2), .lit (.int .u8 57), .lit (.int .u8 49), .lit (.int .u8 28), .lit (.int .u8 3), .lit (.int .u8 61), .lit (.int .u8 58), .lit (.int .u8 42), .lit (.int .u8 50), .lit (.int .u8 38), .lit (.int .u8 29), .lit (.int .u8 17), .lit (.int .u8 4), .lit (.int .u8 62), .lit (.int .u8 47), .lit (.int .u8 59), .lit (.int .u8 36), .lit (.int .u8 45), .lit (.int .u8 43), .lit (.int .u8 51), .lit (.int .u8 22), .lit (.int .u8 53), .lit (.int .u8 39), .lit (.int .u8 33), .lit (.int .u8 30), .lit (.int .u8 24), .lit (.int .u8 18), .lit (.int .u8 12), .lit (.int .u8 5), .lit (.int .u8 63), .lit (.int .u8 55), .lit (.int .u8 48), .lit (.int .u8 27), .lit (.int .u8 60), .lit (.int .u8 41), .lit (.int .u8 37), .lit (.int .u8 16), .lit (.int .u8 46), .lit (.int .u8 35), .lit (.int .u8 44), .lit (.int .u8 21), .lit (.int .u8 52), .lit (.int .u8 32), .lit (.int .u8 23), .lit (.int .u8 11), .lit (.int .u8 54), .lit (.int .u8 26), .lit (.int .u8 40), .lit (.int .u8 15), .lit (.int .u8 34), .lit (.int .u8 20), .lit (.int .u8 31), .lit (.int .u8 10), .lit (.int .u8 25), .lit (.int .u8 14), .lit (.int .u8 19), .lit (.int .u8 9), .lit (.int .u8 13), .lit (.int .u8 8), .lit (.int .u8 7), .lit (.int .u8 6)]
def laid_internal_strconv_uint64pow10 {H : Type} : DataW H := .agg [.lit (.int .u64 1), .lit (.int .u64 10), .lit (.int .u64 100), .lit (.int .u64 1000), .lit (.int .u64 10000), .lit (.int .u64 100000), .lit (.int .u64 1000000), .lit (.int .u64 10000000), .lit (.int .u64 100000000), .lit (.int .u64 1000000000), .lit (.int .u64 10000000000), .lit (.int .u64 100000000000), .lit (.int .u64 1000000000000), .lit (.int .u64 10000000000000), .lit (.int .u64 100000000000000), .lit (.int .u64 1000000000000000), .lit (.int .u64 10000000000000000), .lit (.int .u64 100000000000000000), .lit (.int .u64 1000000000000000000), .lit (.int .u64 10000000000000000000)]
def laid_io_EOF {H : Type} : DataW H := .iface "*errors.errorString" (.ptr (.agg [.lit (.string [69, 79, 70])]))
def laid_encoding_hex_ErrLength {H : Type} : DataW H := .iface "*errors.errorString" (.ptr (.agg [.lit (.string [101, 110, 99, 111, 100, 105, 110, 103, 47, 104, 101, 120, 58, 32, 111, 100, 100, 32, 108, 101, 110, 103, 116, 104, 32, 104, 101, 120, 32, 115, 116, 114, 105, 110, 103])]))
def laid_loop_example_pub_g01474_pub_gogit_plumbing_object_ErrEntriesNotSorted {H : Type} : DataW H := .iface "*errors.errorString" (.ptr (.agg [.lit (.string [101, 110, 116, 114, 105, 101, 115, 32, 105, 110, 32, 116, 114, 101, 101, 32, 97, 114, 101, 32, 110, 111, 116, 32, 115, 111, 114, 116, 101, 100])]))

/-- 'laws.FnTreeBytes': WHATEVER THE INPUT: true; the input reads as it did. -/
def fnTreeBytesSpec : ChangeSpec := { name := "fnTreeBytes", vars := ["loop.example/pub-g01474/pub/gogit/plumbing/object.ErrEntriesNotSorted"], fn := fun _ => fun
  | [d, g1] => { results := [.lit (.bool true)], args := [d], vars := [g1] }
  | _ => none }
def fnTreeBytesRow : OpenClaim := { program := "ytddnepddilbikaadoor", sum := "23000c351773ca08f54568006b01d5226d23cad03225f6a594dca8dc2318c4ca", func := "loop.example/pub-g01474/laws.FnTreeBytes", spec := "fnTreeBytes", inPlace := ["internal/bytealg.IndexByteString"], unfollowed := true, recurses := true, named := ["encoding/hex.ErrLength", "loop.example/pub-g01474/pub/gogit/plumbing/object.ErrEntriesNotSorted", "internal/strconv.uint64pow10", "math/bits.deBruijn32tab", "math/bits.deBruijn64tab", "io.EOF"], ifaces := true, apart := false, laid := [("math/bits.deBruijn32tab", laid_math_bits_deBruijn32tab), ("math/bits.deBruijn64tab", laid_math_bits_deBruijn64tab), ("internal/strconv.uint64pow10", laid_internal_strconv_uint64pow10), ("io.EOF", laid_io_EOF), ("encoding/hex.ErrLength", laid_encoding_hex_ErrLength), ("loop.example/pub-g01474/pub/gogit/plumbing/object.ErrEntriesNotSorted", laid_loop_example_pub_g01474_pub_gogit_plumbing_object_ErrEntriesNotSorted)] }
def FnTreeBytesSaid : Prop := fnTreeBytesRow.holds Tryd.pinned (OpenSpec.ofChange fnTreeBytesSpec)

/-- ITS FALSE NEIGHBOUR: 'it returns false'. Refute it at one input. -/
def fnTreeBytesWrong : ChangeSpec := { name := "fnTreeBytes", vars := ["loop.example/pub-g01474/pub/gogit/plumbing/object.ErrEntriesNotSorted"], fn := fun _ => fun
  | [d, g1] => { results := [.lit (.bool false)], args := [d], vars := [g1] }
  | _ => none }
def FnTreeBytesWrongFalsely : Prop := fnTreeBytesRow.holds Tryd.pinned (OpenSpec.ofChange fnTreeBytesWrong)

/-- 'laws.FnTagText': WHATEVER THE INPUT: true; the input reads as it did. -/
def fnTagTextSpec : ChangeSpec := { name := "fnTagText", fn := fun _ => fun
  | [d] => { results := [.lit (.bool true)], args := [d] }
  | _ => none }
def fnTagTextRow : OpenClaim := { program := "ytddnepddilbikaadoor", sum := "23000c351773ca08f54568006b01d5226d23cad03225f6a594dca8dc2318c4ca", func := "loop.example/pub-g01474/laws.FnTagText", spec := "fnTagText", unfollowed := true, recurses := true, named := ["encoding/hex.ErrLength", "internal/strconv.uint64pow10", "math/bits.deBruijn32tab", "math/bits.deBruijn64tab", "io.EOF"], apart := false, laid := [("math/bits.deBruijn32tab", laid_math_bits_deBruijn32tab), ("math/bits.deBruijn64tab", laid_math_bits_deBruijn64tab), ("internal/strconv.uint64pow10", laid_internal_strconv_uint64pow10), ("io.EOF", laid_io_EOF), ("encoding/hex.ErrLength", laid_encoding_hex_ErrLength)] }
def FnTagTextSaid : Prop := fnTagTextRow.holds Tryd.pinned (OpenSpec.ofChange fnTagTextSpec)

/-- ITS FALSE NEIGHBOUR: 'it returns false'. Refute it at one input. -/
def fnTagTextWrong : ChangeSpec := { name := "fnTagText", fn := fun _ => fun
  | [d] => { results := [.lit (.bool false)], args := [d] }
  | _ => none }
def FnTagTextWrongFalsely : Prop := fnTagTextRow.holds Tryd.pinned (OpenSpec.ofChange fnTagTextWrong)

/-- 'laws.FnCommitText': WHATEVER THE INPUT: true; the input reads as it did. -/
def fnCommitTextSpec : ChangeSpec := { name := "fnCommitText", fn := fun _ => fun
  | [d] => { results := [.lit (.bool true)], args := [d] }
  | _ => none }
def fnCommitTextRow : OpenClaim := { program := "ytddnepddilbikaadoor", sum := "23000c351773ca08f54568006b01d5226d23cad03225f6a594dca8dc2318c4ca", func := "loop.example/pub-g01474/laws.FnCommitText", spec := "fnCommitText", inPlace := ["internal/abi.NoEscape", "internal/bytealg.MakeNoZero"], unfollowed := true, recurses := true, named := ["encoding/hex.ErrLength", "internal/strconv.uint64pow10", "math/bits.deBruijn32tab", "math/bits.deBruijn64tab", "io.EOF"], apart := false, laid := [("math/bits.deBruijn32tab", laid_math_bits_deBruijn32tab), ("math/bits.deBruijn64tab", laid_math_bits_deBruijn64tab), ("internal/strconv.uint64pow10", laid_internal_strconv_uint64pow10), ("io.EOF", laid_io_EOF), ("encoding/hex.ErrLength", laid_encoding_hex_ErrLength)] }
def FnCommitTextSaid : Prop := fnCommitTextRow.holds Tryd.pinned (OpenSpec.ofChange fnCommitTextSpec)

/-- ITS FALSE NEIGHBOUR: 'it returns false'. Refute it at one input. -/
def fnCommitTextWrong : ChangeSpec := { name := "fnCommitText", fn := fun _ => fun
  | [d] => { results := [.lit (.bool false)], args := [d] }
  | _ => none }
def FnCommitTextWrongFalsely : Prop := fnCommitTextRow.holds Tryd.pinned (OpenSpec.ofChange fnCommitTextWrong)

/- THE SECOND FORM. 'bulk': how many values and letters a reading holds, each counted each time it is reached (what is shared counts as often as it is met; a slice's spare places count too). A statement '..UptoSaid' is the law's where the arguments, and the package variables that the reading takes, are together of bulk at most 1048576: NARROWER than '..Said'. Prove '..Said' where nothing that the law and all that it calls make is longer than what came in: it says more and counts as full. Else prove '..UptoSaid'. A law counts once. -/
mutual
def uptoBulk {H : Type} : DataW H → Nat
  | .lit (.string bytes) => bytes.length + 1
  | .lit _ => 1
  | .nil => 1
  | .ptr d => uptoBulk d + 1
  | .slice elems spare => uptoBulkAll elems + uptoBulkAll spare + 1
  | .agg parts => uptoBulkAll parts + 1
  | .iface _ d => uptoBulk d + 1
  | .map entries => uptoBulkEntries entries + 1
  | .held _ => 1
def uptoBulkAll {H : Type} : List (DataW H) → Nat
  | [] => 0
  | d :: r => uptoBulk d + uptoBulkAll r
def uptoBulkEntries {H : Type} : List (Lit × DataW H) → Nat
  | [] => 0
  | x :: r => uptoBulkEntry x + uptoBulkEntries r
def uptoBulkEntry {H : Type} : Lit × DataW H → Nat
  | (.string bytes, d) => bytes.length + uptoBulk d + 1
  | (_, d) => uptoBulk d + 1
 end
def uptoSmall : (H : Type) → List (DataW H) → Bool := fun _ ds => decide (uptoBulkAll ds ≤ 1048576)
def OpenSpec.upto (s : _root_.Go.ChangeSpec) : _root_.Go.OpenSpec := { _root_.Go.OpenSpec.ofChange s with cond := some uptoSmall }

/-- 'laws.FnTreeBytes', WHERE WHAT IT READS IS OF BULK AT MOST 1048576: true; the input reads as it did. -/
def fnTreeBytesUptoRow : OpenClaim := { program := "ytddnepddilbikaadoor", sum := "23000c351773ca08f54568006b01d5226d23cad03225f6a594dca8dc2318c4ca", func := "loop.example/pub-g01474/laws.FnTreeBytes", spec := "fnTreeBytes", inPlace := ["internal/bytealg.IndexByteString"], unfollowed := true, recurses := true, named := ["encoding/hex.ErrLength", "loop.example/pub-g01474/pub/gogit/plumbing/object.ErrEntriesNotSorted", "internal/strconv.uint64pow10", "math/bits.deBruijn32tab", "math/bits.deBruijn64tab", "io.EOF"], ifaces := true, apart := false, laid := [("math/bits.deBruijn32tab", laid_math_bits_deBruijn32tab), ("math/bits.deBruijn64tab", laid_math_bits_deBruijn64tab), ("internal/strconv.uint64pow10", laid_internal_strconv_uint64pow10), ("io.EOF", laid_io_EOF), ("encoding/hex.ErrLength", laid_encoding_hex_ErrLength), ("loop.example/pub-g01474/pub/gogit/plumbing/object.ErrEntriesNotSorted", laid_loop_example_pub_g01474_pub_gogit_plumbing_object_ErrEntriesNotSorted)], narrowed := true }
def FnTreeBytesUptoSaid : Prop := fnTreeBytesUptoRow.holds Tryd.pinned (OpenSpec.upto fnTreeBytesSpec)

/-- 'laws.FnTagText', WHERE WHAT IT READS IS OF BULK AT MOST 1048576: true; the input reads as it did. -/
def fnTagTextUptoRow : OpenClaim := { program := "ytddnepddilbikaadoor", sum := "23000c351773ca08f54568006b01d5226d23cad03225f6a594dca8dc2318c4ca", func := "loop.example/pub-g01474/laws.FnTagText", spec := "fnTagText", unfollowed := true, recurses := true, named := ["encoding/hex.ErrLength", "internal/strconv.uint64pow10", "math/bits.deBruijn32tab", "math/bits.deBruijn64tab", "io.EOF"], apart := false, laid := [("math/bits.deBruijn32tab", laid_math_bits_deBruijn32tab), ("math/bits.deBruijn64tab", laid_math_bits_deBruijn64tab), ("internal/strconv.uint64pow10", laid_internal_strconv_uint64pow10), ("io.EOF", laid_io_EOF), ("encoding/hex.ErrLength", laid_encoding_hex_ErrLength)], narrowed := true }
def FnTagTextUptoSaid : Prop := fnTagTextUptoRow.holds Tryd.pinned (OpenSpec.upto fnTagTextSpec)

/-- 'laws.FnCommitText', WHERE WHAT IT READS IS OF BULK AT MOST 1048576: true; the input reads as it did. -/
def fnCommitTextUptoRow : OpenClaim := { program := "ytddnepddilbikaadoor", sum := "23000c351773ca08f54568006b01d5226d23cad03225f6a594dca8dc2318c4ca", func := "loop.example/pub-g01474/laws.FnCommitText", spec := "fnCommitText", inPlace := ["internal/abi.NoEscape", "internal/bytealg.MakeNoZero"], unfollowed := true, recurses := true, named := ["encoding/hex.ErrLength", "internal/strconv.uint64pow10", "math/bits.deBruijn32tab", "math/bits.deBruijn64tab", "io.EOF"], apart := false, laid := [("math/bits.deBruijn32tab", laid_math_bits_deBruijn32tab), ("math/bits.deBruijn64tab", laid_math_bits_deBruijn64tab), ("internal/strconv.uint64pow10", laid_internal_strconv_uint64pow10), ("io.EOF", laid_io_EOF), ("encoding/hex.ErrLength", laid_encoding_hex_ErrLength)], narrowed := true }
def FnCommitTextUptoSaid : Prop := fnCommitTextUptoRow.holds Tryd.pinned (OpenSpec.upto fnCommitTextSpec)

end Rows
end Go.Proofs.YtddnepddilbikaaDoor
