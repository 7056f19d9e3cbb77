/-
  DERIVED. GIVEN WITH THE SEED: THE CARDS: each row of YtlfabebbpoipgaaDoorRows.lean that lists a variable, with what it lists TIED to the program's text (the seventh form; the later family's looks); each row that meets fmt, with fmt's text TOLD by the authors' own Lean function (tested against real Go, not proved from fmt's source: count such statements apart). THE CARD IS WHAT COUNTS. Prove the row's statement (the work); the ties are given (YtlfabebbpoipgaaDoorTie.lean); close each card by the builder's one call (the guide's Derived/Test/ToyasCard.lean, 'card_holds'). Laid BY PROGRAM, IN A SANDBOX (cutbox-door.mjs). By AI agents, Wed Nov 11 2026. No macro, syntax, notation, axiom, sorry.
-/
import Derived.Test.YtlfabebbpoipgaaDoorRows
import GoSem.ClaimSeven
namespace Go.Proofs.YtlfabebbpoipgaaDoor
namespace Rows

/-- THE TIED CARD OF 'laws.FnModeBad'. -/
def fnModeBadCard : Claim7 := { stood := { row := fnModeBadRow, standIns := [], harness := (true, "e64b0ff9f84e50f47dba093185303f4ca28a1d6667701b3a307ce9c5b8ef2f5c"), looks := true }, kinds := [], alts := [], laidByText := true, laidKinds := [.data, .data, .data, .sentinel, .sentinel], laidTests := true, laidLooks := .later }
def FnModeBadCardSaid : Prop := Claim7.holds Tryd.pinned (.plain (OpenSpec.ofChange fnModeBadSpec)) fnModeBadCard

/-- THE TIED CARD OF 'laws.FnModeRead'. -/
def fnModeReadCard : Claim7 := { stood := { row := fnModeReadRow, standIns := [], harness := (true, "e64b0ff9f84e50f47dba093185303f4ca28a1d6667701b3a307ce9c5b8ef2f5c"), looks := true }, kinds := [], alts := [], laidByText := true, laidKinds := [.data, .data, .data, .sentinel, .sentinel], laidTests := true, laidLooks := .later }
def FnModeReadCardSaid : Prop := Claim7.holds Tryd.pinned (.plain (OpenSpec.ofChange fnModeReadSpec)) fnModeReadCard

/-- THE SECOND FORM's CARD OF 'laws.FnModeBad'. -/
def fnModeBadUptoCard : Claim7 := { stood := { row := fnModeBadUptoRow, standIns := [], harness := (true, "e64b0ff9f84e50f47dba093185303f4ca28a1d6667701b3a307ce9c5b8ef2f5c"), looks := true }, kinds := [], alts := [], laidByText := true, laidKinds := [.data, .data, .data, .sentinel, .sentinel], laidTests := true, laidLooks := .later }
def FnModeBadUptoCardSaid : Prop := Claim7.holds Tryd.pinned (.plain (OpenSpec.upto fnModeBadSpec)) fnModeBadUptoCard

/-- THE SECOND FORM's CARD OF 'laws.FnModeRead'. -/
def fnModeReadUptoCard : Claim7 := { stood := { row := fnModeReadUptoRow, standIns := [], harness := (true, "e64b0ff9f84e50f47dba093185303f4ca28a1d6667701b3a307ce9c5b8ef2f5c"), looks := true }, kinds := [], alts := [], laidByText := true, laidKinds := [.data, .data, .data, .sentinel, .sentinel], laidTests := true, laidLooks := .later }
def FnModeReadUptoCardSaid : Prop := Claim7.holds Tryd.pinned (.plain (OpenSpec.upto fnModeReadSpec)) fnModeReadUptoCard
end Rows
end Go.Proofs.YtlfabebbpoipgaaDoor
