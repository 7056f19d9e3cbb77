/-
  DERIVED. GIVEN WITH THE SEED: THE CARDS: each row of YtlkenmpbhchieaaDoorRows.lean that lists a variable, with what it lists TIED to the program's text (the seventh form; the later family's looks); each row that meets fmt, with fmt's text TOLD by the authors' own Lean function (tested against real Go, not proved from fmt's source: count such statements apart). THE CARD IS WHAT COUNTS. Prove the row's statement (the work); the ties are given (YtlkenmpbhchieaaDoorTie.lean); close each card by the builder's one call (the guide's Derived/Test/ToyasCard.lean, 'card_holds'). Laid BY PROGRAM, IN A SANDBOX (cutbox-door.mjs). By AI agents, Wed Nov 11 2026. No macro, syntax, notation, axiom, sorry.
-/
import Derived.Test.YtlkenmpbhchieaaDoorRows
import GoSem.ClaimSeven
namespace Go.Proofs.YtlkenmpbhchieaaDoor
namespace Rows

/-- THE TIED CARD OF 'laws.FnProtoReportRead'. -/
def fnProtoReportReadCard : Claim7 := { stood := { row := fnProtoReportReadRow, standIns := [], harness := (true, "beb11d68b6ca706d0e0a294ba9aecb9a170a13127911683c74105e28a329ced4"), looks := true }, kinds := [], alts := [], laidByText := true, laidKinds := [.data, .sentinel, .sentinel, .sentinel, .listed, .data, .sentinel, .pinned], laidTests := true, laidLooks := .later }
def FnProtoReportReadCardSaid : Prop := Claim7.holds Tryd.pinned (.plain (OpenSpec.ofChange fnProtoReportReadSpec)) fnProtoReportReadCard

/-- THE SECOND FORM's CARD OF 'laws.FnProtoReportRead'. -/
def fnProtoReportReadUptoCard : Claim7 := { stood := { row := fnProtoReportReadUptoRow, standIns := [], harness := (true, "beb11d68b6ca706d0e0a294ba9aecb9a170a13127911683c74105e28a329ced4"), looks := true }, kinds := [], alts := [], laidByText := true, laidKinds := [.data, .sentinel, .sentinel, .sentinel, .listed, .data, .sentinel, .pinned], laidTests := true, laidLooks := .later }
def FnProtoReportReadUptoCardSaid : Prop := Claim7.holds Tryd.pinned (.plain (OpenSpec.upto fnProtoReportReadSpec)) fnProtoReportReadUptoCard
end Rows
end Go.Proofs.YtlkenmpbhchieaaDoor
