/-
  DERIVED. GIVEN WITH THE SEED: THE CARDS: each row of YtddnepddilbikaaDoorRows.lean that lists a variable, with what it lists TIED to the program's text (the seventh form; the later family's looks); each row that meets fmt, with fmt's text TOLD by the authors' own Lean function (tested against real Go, not proved from fmt's source: count such statements apart). THE CARD IS WHAT COUNTS. Prove the row's statement (the work); the ties are given (YtddnepddilbikaaDoorTie.lean); close each card by the builder's one call (the guide's Derived/Test/ToyasCard.lean, 'card_holds'). Laid BY PROGRAM, IN A SANDBOX (cutbox-door.mjs). By AI agents, Wed Nov 11 2026. No macro, syntax, notation, axiom, sorry.
-/
import Derived.Test.YtddnepddilbikaaDoorRows
import GoSem.ClaimSeven
namespace Go.Proofs.YtddnepddilbikaaDoor
namespace Rows

/-- THE TIED CARD OF 'laws.FnTreeBytes'. -/
def fnTreeBytesCard : Claim7 := { stood := { row := fnTreeBytesRow, standIns := [], harness := (true, "9637133ba11949d58e972035f8bc746bc85eaf542b44ca1d14ad9feb0dd03405"), looks := true }, kinds := [], alts := [], laidByText := true, laidKinds := [.data, .data, .data, .sentinel, .sentinel, .sentinel], laidTests := true, laidLooks := .later }
def FnTreeBytesCardSaid : Prop := Claim7.holds Tryd.pinned (.plain (OpenSpec.ofChange fnTreeBytesSpec)) fnTreeBytesCard

/-- THE TIED CARD OF 'laws.FnTagText'. -/
def fnTagTextCard : Claim7 := { stood := { row := fnTagTextRow, standIns := [], harness := (true, "9637133ba11949d58e972035f8bc746bc85eaf542b44ca1d14ad9feb0dd03405"), looks := true }, kinds := [], alts := [], laidByText := true, laidKinds := [.data, .data, .data, .sentinel, .sentinel], laidTests := true, laidLooks := .later }
def FnTagTextCardSaid : Prop := Claim7.holds Tryd.pinned (.plain (OpenSpec.ofChange fnTagTextSpec)) fnTagTextCard

/-- THE TIED CARD OF 'laws.FnCommitText'. -/
def fnCommitTextCard : Claim7 := { stood := { row := fnCommitTextRow, standIns := [], harness := (true, "9637133ba11949d58e972035f8bc746bc85eaf542b44ca1d14ad9feb0dd03405"), looks := true }, kinds := [], alts := [], laidByText := true, laidKinds := [.data, .data, .data, .sentinel, .sentinel], laidTests := true, laidLooks := .later }
def FnCommitTextCardSaid : Prop := Claim7.holds Tryd.pinned (.plain (OpenSpec.ofChange fnCommitTextSpec)) fnCommitTextCard

/-- THE SECOND FORM's CARD OF 'laws.FnTreeBytes'. -/
def fnTreeBytesUptoCard : Claim7 := { stood := { row := fnTreeBytesUptoRow, standIns := [], harness := (true, "9637133ba11949d58e972035f8bc746bc85eaf542b44ca1d14ad9feb0dd03405"), looks := true }, kinds := [], alts := [], laidByText := true, laidKinds := [.data, .data, .data, .sentinel, .sentinel, .sentinel], laidTests := true, laidLooks := .later }
def FnTreeBytesUptoCardSaid : Prop := Claim7.holds Tryd.pinned (.plain (OpenSpec.upto fnTreeBytesSpec)) fnTreeBytesUptoCard

/-- THE SECOND FORM's CARD OF 'laws.FnTagText'. -/
def fnTagTextUptoCard : Claim7 := { stood := { row := fnTagTextUptoRow, standIns := [], harness := (true, "9637133ba11949d58e972035f8bc746bc85eaf542b44ca1d14ad9feb0dd03405"), looks := true }, kinds := [], alts := [], laidByText := true, laidKinds := [.data, .data, .data, .sentinel, .sentinel], laidTests := true, laidLooks := .later }
def FnTagTextUptoCardSaid : Prop := Claim7.holds Tryd.pinned (.plain (OpenSpec.upto fnTagTextSpec)) fnTagTextUptoCard

/-- THE SECOND FORM's CARD OF 'laws.FnCommitText'. -/
def fnCommitTextUptoCard : Claim7 := { stood := { row := fnCommitTextUptoRow, standIns := [], harness := (true, "9637133ba11949d58e972035f8bc746bc85eaf542b44ca1d14ad9feb0dd03405"), looks := true }, kinds := [], alts := [], laidByText := true, laidKinds := [.data, .data, .data, .sentinel, .sentinel], laidTests := true, laidLooks := .later }
def FnCommitTextUptoCardSaid : Prop := Claim7.holds Tryd.pinned (.plain (OpenSpec.upto fnCommitTextSpec)) fnCommitTextUptoCard
end Rows
end Go.Proofs.YtddnepddilbikaaDoor
