/-
  DERIVED. GIVEN WITH THE SEED: THE CARDS: each row of YtoidakilalebmaaDoorRows.lean that lists a variable, with what it lists TIED to the program's text (the seventh form; the later family's looks); each row that meets fmt, with fmt's text TOLD by the authors' own Lean function (tested against real Go, not proved from fmt's source: count such statements apart). THE CARD IS WHAT COUNTS. Prove the row's statement (the work); the ties are given (YtoidakilalebmaaDoorTie.lean); close each card by the builder's one call (the guide's Derived/Test/ToyasCard.lean, 'card_holds'). Laid BY PROGRAM, IN A SANDBOX (cutbox-door.mjs). By AI agents, Wed Nov 11 2026. No macro, syntax, notation, axiom, sorry.
-/
import Derived.Test.YtoidakilalebmaaDoorRows
import GoSem.ClaimSeven
namespace Go.Proofs.YtoidakilalebmaaDoor
namespace Rows

/-- THE TIED CARD OF 'laws.FnPktBack'. -/
def fnPktBackCard : Claim7 := { stood := { row := fnPktBackRow, standIns := [], harness := (true, "bab7d79072f9632d27e2f052274ae05d083934df2c976a0d9bce455d77f3f314"), looks := true }, kinds := [], alts := [], laidByText := true, laidKinds := [.data, .sentinel, .sentinel, .sentinel, .listed, .data, .sentinel, .sentinel, .pinned], laidTests := true, laidLooks := .later }
def FnPktBackCardSaid : Prop := Claim7.holds Tryd.pinned (.plain (OpenSpec.ofChange fnPktBackSpec)) fnPktBackCard

/-- THE SECOND FORM's CARD OF 'laws.FnPktBack'. -/
def fnPktBackUptoCard : Claim7 := { stood := { row := fnPktBackUptoRow, standIns := [], harness := (true, "bab7d79072f9632d27e2f052274ae05d083934df2c976a0d9bce455d77f3f314"), looks := true }, kinds := [], alts := [], laidByText := true, laidKinds := [.data, .sentinel, .sentinel, .sentinel, .listed, .data, .sentinel, .sentinel, .pinned], laidTests := true, laidLooks := .later }
def FnPktBackUptoCardSaid : Prop := Claim7.holds Tryd.pinned (.plain (OpenSpec.upto fnPktBackSpec)) fnPktBackUptoCard
end Rows
end Go.Proofs.YtoidakilalebmaaDoor
