/-
  No cell of these rows narrows 'for every input' (looked for: loops, veiled, ifaces, maps, wideKeys, modest, calm, conditions, laid).
  DERIVED. THE GIVEN ROWS OF THIS SEAT. 4 by the template 'for every input the law returns true; each argument reads behind the call as it read before'; 0 by the template 'total and deterministic' (their statements: YtlnfkpmmnennbaaTotals.lean).
  GIVEN WITH THE SEED: the statements are not yours to turn. If you find one false, say at which input.
  Laid BY PROGRAM, IN A SANDBOX (cutbox-rows.mjs): the forced cells as the released guide's own fill.sh prints them over the translation 64c6d3a657f4ee2b… (all of the seat's roots in one cut). By AI agents, Wed Nov 11 2026. No macro, syntax, notation, axiom, sorry.
-/
import Derived.Test.YtlnfkpmmnennbaaChecked
import GoSem.Claim
import GoSem.ClaimJoined
import GoSem.ClaimMapViews
import Derived.JoinedTies
import Derived.KernelRfl
namespace Go.Proofs.Ytlnfkpmmnennbaa
/- THE CELL 'sum', in the pinned program and in every row, IS THE sha256 OF THE DUMP (.gsa) THAT YtlnfkpmmnennbaaProg.lean LOADS. Nothing in Lean hashes anything: it is a label: what it is worth is what the hold of that sum in a sandbox is worth. -/
noncomputable def Try.pinned : Pinned := { name := "ytlnfkpmmnennbaa", sum := "64c6d3a657f4ee2b17fdfacb1bb406f289213c7cd415d827b00288a566429259", checked := Try.checked }
namespace Rows
def none {H : Type} : Left H := { results := [], args := [] }

/-- 'laws.FnIgnoreDeep': WHATEVER THE INPUT: true; the input reads as it did. -/
def fnIgnoreDeepSpec : ChangeSpec := { name := "fnIgnoreDeep", fn := fun _ => fun
  | [d1, d2, d3] => { results := [.lit (.bool true)], args := [d1, d2, d3] }
  | _ => none }
def fnIgnoreDeepRow : OpenClaim := { program := "ytlnfkpmmnennbaa", sum := "64c6d3a657f4ee2b17fdfacb1bb406f289213c7cd415d827b00288a566429259", func := "loop.example/pub-g01474/laws.FnIgnoreDeep", spec := "fnIgnoreDeep", unfollowed := true, recurses := true, apart := false }
def FnIgnoreDeepSaid : Prop := fnIgnoreDeepRow.holds Try.pinned (OpenSpec.ofChange fnIgnoreDeepSpec)

/-- ITS FALSE NEIGHBOUR: 'it returns false'. Refute it at one input. -/
def fnIgnoreDeepWrong : ChangeSpec := { name := "fnIgnoreDeep", fn := fun _ => fun
  | [d1, d2, d3] => { results := [.lit (.bool false)], args := [d1, d2, d3] }
  | _ => none }
def FnIgnoreDeepWrongFalsely : Prop := fnIgnoreDeepRow.holds Try.pinned (OpenSpec.ofChange fnIgnoreDeepWrong)

/-- 'laws.FnIgnoreName': WHATEVER THE INPUT: true; the input reads as it did. -/
def fnIgnoreNameSpec : ChangeSpec := { name := "fnIgnoreName", fn := fun _ => fun
  | [d1, d2, d3, d4] => { results := [.lit (.bool true)], args := [d1, d2, d3, d4] }
  | _ => none }
def fnIgnoreNameRow : OpenClaim := { program := "ytlnfkpmmnennbaa", sum := "64c6d3a657f4ee2b17fdfacb1bb406f289213c7cd415d827b00288a566429259", func := "loop.example/pub-g01474/laws.FnIgnoreName", spec := "fnIgnoreName", unfollowed := true, recurses := true, apart := false }
def FnIgnoreNameSaid : Prop := fnIgnoreNameRow.holds Try.pinned (OpenSpec.ofChange fnIgnoreNameSpec)

/-- ITS FALSE NEIGHBOUR: 'it returns false'. Refute it at one input. -/
def fnIgnoreNameWrong : ChangeSpec := { name := "fnIgnoreName", fn := fun _ => fun
  | [d1, d2, d3, d4] => { results := [.lit (.bool false)], args := [d1, d2, d3, d4] }
  | _ => none }
def FnIgnoreNameWrongFalsely : Prop := fnIgnoreNameRow.holds Try.pinned (OpenSpec.ofChange fnIgnoreNameWrong)

/-- 'laws.FnIgnoreNot': WHATEVER THE INPUT: true; the input reads as it did. -/
def fnIgnoreNotSpec : ChangeSpec := { name := "fnIgnoreNot", fn := fun _ => fun
  | [d1, d2, d3, d4] => { results := [.lit (.bool true)], args := [d1, d2, d3, d4] }
  | _ => none }
def fnIgnoreNotRow : OpenClaim := { program := "ytlnfkpmmnennbaa", sum := "64c6d3a657f4ee2b17fdfacb1bb406f289213c7cd415d827b00288a566429259", func := "loop.example/pub-g01474/laws.FnIgnoreNot", spec := "fnIgnoreNot", unfollowed := true, recurses := true, apart := false }
def FnIgnoreNotSaid : Prop := fnIgnoreNotRow.holds Try.pinned (OpenSpec.ofChange fnIgnoreNotSpec)

/-- ITS FALSE NEIGHBOUR: 'it returns false'. Refute it at one input. -/
def fnIgnoreNotWrong : ChangeSpec := { name := "fnIgnoreNot", fn := fun _ => fun
  | [d1, d2, d3, d4] => { results := [.lit (.bool false)], args := [d1, d2, d3, d4] }
  | _ => none }
def FnIgnoreNotWrongFalsely : Prop := fnIgnoreNotRow.holds Try.pinned (OpenSpec.ofChange fnIgnoreNotWrong)

/-- 'laws.FnIgnoreLast': WHATEVER THE INPUT: true; the input reads as it did. -/
def fnIgnoreLastSpec : ChangeSpec := { name := "fnIgnoreLast", fn := fun _ => fun
  | [d1, d2, d3, d4] => { results := [.lit (.bool true)], args := [d1, d2, d3, d4] }
  | _ => none }
def fnIgnoreLastRow : OpenClaim := { program := "ytlnfkpmmnennbaa", sum := "64c6d3a657f4ee2b17fdfacb1bb406f289213c7cd415d827b00288a566429259", func := "loop.example/pub-g01474/laws.FnIgnoreLast", spec := "fnIgnoreLast", unfollowed := true, recurses := true, apart := false }
def FnIgnoreLastSaid : Prop := fnIgnoreLastRow.holds Try.pinned (OpenSpec.ofChange fnIgnoreLastSpec)

/-- ITS FALSE NEIGHBOUR: 'it returns false'. Refute it at one input. -/
def fnIgnoreLastWrong : ChangeSpec := { name := "fnIgnoreLast", fn := fun _ => fun
  | [d1, d2, d3, d4] => { results := [.lit (.bool false)], args := [d1, d2, d3, d4] }
  | _ => none }
def FnIgnoreLastWrongFalsely : Prop := fnIgnoreLastRow.holds Try.pinned (OpenSpec.ofChange fnIgnoreLastWrong)

/- THE SECOND FORM. 'bulk': how many values and letters a reading holds, each counted each time it is reached (what is shared counts as often as it is met; a slice's spare places count too). A statement '..UptoSaid' is the law's where the arguments, and the package variables that the reading takes, are together of bulk at most 1048576: NARROWER than '..Said'. Prove '..Said' where nothing that the law and all that it calls make is longer than what came in: it says more and counts as full. Else prove '..UptoSaid'. A law counts once. -/
mutual
def uptoBulk {H : Type} : DataW H → Nat
  | .lit (.string bytes) => bytes.length + 1
  | .lit _ => 1
  | .nil => 1
  | .ptr d => uptoBulk d + 1
  | .slice elems spare => uptoBulkAll elems + uptoBulkAll spare + 1
  | .agg parts => uptoBulkAll parts + 1
  | .iface _ d => uptoBulk d + 1
  | .map entries => uptoBulkEntries entries + 1
  | .held _ => 1
def uptoBulkAll {H : Type} : List (DataW H) → Nat
  | [] => 0
  | d :: r => uptoBulk d + uptoBulkAll r
def uptoBulkEntries {H : Type} : List (Lit × DataW H) → Nat
  | [] => 0
  | x :: r => uptoBulkEntry x + uptoBulkEntries r
def uptoBulkEntry {H : Type} : Lit × DataW H → Nat
  | (.string bytes, d) => bytes.length + uptoBulk d + 1
  | (_, d) => uptoBulk d + 1
 end
def uptoSmall : (H : Type) → List (DataW H) → Bool := fun _ ds => decide (uptoBulkAll ds ≤ 1048576)
def OpenSpec.upto (s : _root_.Go.ChangeSpec) : _root_.Go.OpenSpec := { _root_.Go.OpenSpec.ofChange s with cond := some uptoSmall }

/-- 'laws.FnIgnoreDeep', WHERE WHAT IT READS IS OF BULK AT MOST 1048576: true; the input reads as it did. -/
def fnIgnoreDeepUptoRow : OpenClaim := { program := "ytlnfkpmmnennbaa", sum := "64c6d3a657f4ee2b17fdfacb1bb406f289213c7cd415d827b00288a566429259", func := "loop.example/pub-g01474/laws.FnIgnoreDeep", spec := "fnIgnoreDeep", unfollowed := true, recurses := true, apart := false, narrowed := true }
def FnIgnoreDeepUptoSaid : Prop := fnIgnoreDeepUptoRow.holds Try.pinned (OpenSpec.upto fnIgnoreDeepSpec)

/-- 'laws.FnIgnoreName', WHERE WHAT IT READS IS OF BULK AT MOST 1048576: true; the input reads as it did. -/
def fnIgnoreNameUptoRow : OpenClaim := { program := "ytlnfkpmmnennbaa", sum := "64c6d3a657f4ee2b17fdfacb1bb406f289213c7cd415d827b00288a566429259", func := "loop.example/pub-g01474/laws.FnIgnoreName", spec := "fnIgnoreName", unfollowed := true, recurses := true, apart := false, narrowed := true }
def FnIgnoreNameUptoSaid : Prop := fnIgnoreNameUptoRow.holds Try.pinned (OpenSpec.upto fnIgnoreNameSpec)

/-- 'laws.FnIgnoreNot', WHERE WHAT IT READS IS OF BULK AT MOST 1048576: true; the input reads as it did. -/
def fnIgnoreNotUptoRow : OpenClaim := { program := "ytlnfkpmmnennbaa", sum := "64c6d3a657f4ee2b17fdfacb1bb406f289213c7cd415d827b00288a566429259", func := "loop.example/pub-g01474/laws.FnIgnoreNot", spec := "fnIgnoreNot", unfollowed := true, recurses := true, apart := false, narrowed := true }
def FnIgnoreNotUptoSaid : Prop := fnIgnoreNotUptoRow.holds Try.pinned (OpenSpec.upto fnIgnoreNotSpec)

/-- 'laws.FnIgnoreLast', WHERE WHAT IT READS IS OF BULK AT MOST 1048576: true; the input reads as it did. -/
def fnIgnoreLastUptoRow : OpenClaim := { program := "ytlnfkpmmnennbaa", sum := "64c6d3a657f4ee2b17fdfacb1bb406f289213c7cd415d827b00288a566429259", func := "loop.example/pub-g01474/laws.FnIgnoreLast", spec := "fnIgnoreLast", unfollowed := true, recurses := true, apart := false, narrowed := true }
def FnIgnoreLastUptoSaid : Prop := fnIgnoreLastUptoRow.holds Try.pinned (OpenSpec.upto fnIgnoreLastSpec)

end Rows
end Go.Proofs.Ytlnfkpmmnennbaa
