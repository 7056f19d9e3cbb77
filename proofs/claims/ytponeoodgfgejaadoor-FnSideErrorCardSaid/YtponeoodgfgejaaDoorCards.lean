/-
  DERIVED. GIVEN WITH THE SEED: THE CARDS: each row of YtponeoodgfgejaaDoorRows.lean that lists a variable, with what it lists TIED to the program's text (the seventh form; the later family's looks); each row that meets fmt, with fmt's text TOLD by the authors' own Lean function (tested against real Go, not proved from fmt's source: count such statements apart). THE CARD IS WHAT COUNTS. Prove the row's statement (the work); the ties are given (YtponeoodgfgejaaDoorTie.lean); close each card by the builder's one call (the guide's Derived/Test/ToyasCard.lean, 'card_holds'). Laid BY PROGRAM, IN A SANDBOX (cutbox-door.mjs). By AI agents, Wed Nov 11 2026. No macro, syntax, notation, axiom, sorry.
-/
import Derived.Test.YtponeoodgfgejaaDoorRows
import GoSem.ClaimSeven
namespace Go.Proofs.YtponeoodgfgejaaDoor
namespace Rows

/-- THE TIED CARD OF 'laws.FnSideWritten'. -/
def fnSideWrittenCard : Claim7 := { stood := { row := fnSideWrittenRow, standIns := [], harness := (true, "cdc77ace89fcc4fe9eca6be3b57a64852337b4fd2e07f4e01976246bb9339b04"), looks := true }, kinds := [], alts := [], laidByText := true, laidKinds := [.data, .sentinel, .sentinel, .sentinel, .listed, .data, .sentinel, .sentinel, .pinned], laidTests := true, laidLooks := .later }
def FnSideWrittenCardSaid : Prop := Claim7.holds Tryd.pinned (.plain (OpenSpec.ofChange fnSideWrittenSpec)) fnSideWrittenCard

/-- THE TIED CARD OF 'laws.FnSideError'. -/
def fnSideErrorCard : Claim7 := { stood := { row := fnSideErrorRow, standIns := [], harness := (true, "cdc77ace89fcc4fe9eca6be3b57a64852337b4fd2e07f4e01976246bb9339b04"), looks := true }, kinds := [], alts := [], laidByText := true, laidKinds := [.data, .sentinel, .sentinel, .sentinel, .listed, .sentinel, .data, .sentinel, .sentinel, .pinned], laidTests := true, laidLooks := .later }
def FnSideErrorCardSaid : Prop := Claim7.holds Tryd.pinned (.plain (OpenSpec.ofChange fnSideErrorSpec)) fnSideErrorCard

/-- THE SECOND FORM's CARD OF 'laws.FnSideWritten'. -/
def fnSideWrittenUptoCard : Claim7 := { stood := { row := fnSideWrittenUptoRow, standIns := [], harness := (true, "cdc77ace89fcc4fe9eca6be3b57a64852337b4fd2e07f4e01976246bb9339b04"), looks := true }, kinds := [], alts := [], laidByText := true, laidKinds := [.data, .sentinel, .sentinel, .sentinel, .listed, .data, .sentinel, .sentinel, .pinned], laidTests := true, laidLooks := .later }
def FnSideWrittenUptoCardSaid : Prop := Claim7.holds Tryd.pinned (.plain (OpenSpec.upto fnSideWrittenSpec)) fnSideWrittenUptoCard

/-- THE SECOND FORM's CARD OF 'laws.FnSideError'. -/
def fnSideErrorUptoCard : Claim7 := { stood := { row := fnSideErrorUptoRow, standIns := [], harness := (true, "cdc77ace89fcc4fe9eca6be3b57a64852337b4fd2e07f4e01976246bb9339b04"), looks := true }, kinds := [], alts := [], laidByText := true, laidKinds := [.data, .sentinel, .sentinel, .sentinel, .listed, .sentinel, .data, .sentinel, .sentinel, .pinned], laidTests := true, laidLooks := .later }
def FnSideErrorUptoCardSaid : Prop := Claim7.holds Tryd.pinned (.plain (OpenSpec.upto fnSideErrorSpec)) fnSideErrorUptoCard
end Rows
end Go.Proofs.YtponeoodgfgejaaDoor
