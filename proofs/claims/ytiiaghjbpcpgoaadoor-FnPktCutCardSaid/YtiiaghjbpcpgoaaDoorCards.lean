/-
  DERIVED. GIVEN WITH THE SEED: THE CARDS: each row of YtiiaghjbpcpgoaaDoorRows.lean that lists a variable, with what it lists TIED to the program's text (the seventh form; the later family's looks); each row that meets fmt, with fmt's text TOLD by the authors' own Lean function (tested against real Go, not proved from fmt's source: count such statements apart). THE CARD IS WHAT COUNTS. Prove the row's statement (the work); the ties are given (YtiiaghjbpcpgoaaDoorTie.lean); close each card by the builder's one call (the guide's Derived/Test/ToyasCard.lean, 'card_holds'). Laid BY PROGRAM, IN A SANDBOX (cutbox-door.mjs). By AI agents, Wed Nov 11 2026. No macro, syntax, notation, axiom, sorry.
-/
import Derived.Test.YtiiaghjbpcpgoaaDoorRows
import GoSem.ClaimSeven
namespace Go.Proofs.YtiiaghjbpcpgoaaDoor
namespace Rows

/-- THE TIED CARD OF 'laws.FnPktCut'. -/
def fnPktCutCard : Claim7 := { stood := { row := fnPktCutRow, standIns := [], harness := (true, "beb6dcc737ad5eccbddbba648f9cacfca12e969cc08fae846f1096c05cc33017"), looks := true }, kinds := [], alts := [], laidByText := true, laidKinds := [.data, .sentinel, .sentinel, .sentinel, .listed, .data, .sentinel, .pinned], laidTests := true, laidLooks := .later }
def FnPktCutCardSaid : Prop := Claim7.holds Tryd.pinned (.plain (OpenSpec.ofChange fnPktCutSpec)) fnPktCutCard

/-- THE SECOND FORM's CARD OF 'laws.FnPktCut'. -/
def fnPktCutUptoCard : Claim7 := { stood := { row := fnPktCutUptoRow, standIns := [], harness := (true, "beb6dcc737ad5eccbddbba648f9cacfca12e969cc08fae846f1096c05cc33017"), looks := true }, kinds := [], alts := [], laidByText := true, laidKinds := [.data, .sentinel, .sentinel, .sentinel, .listed, .data, .sentinel, .pinned], laidTests := true, laidLooks := .later }
def FnPktCutUptoCardSaid : Prop := Claim7.holds Tryd.pinned (.plain (OpenSpec.upto fnPktCutSpec)) fnPktCutUptoCard
end Rows
end Go.Proofs.YtiiaghjbpcpgoaaDoor
