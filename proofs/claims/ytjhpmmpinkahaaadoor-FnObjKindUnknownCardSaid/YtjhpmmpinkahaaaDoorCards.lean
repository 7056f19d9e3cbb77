/-
  DERIVED. GIVEN WITH THE SEED: THE CARDS: each row of YtjhpmmpinkahaaaDoorRows.lean that lists a variable, with what it lists TIED to the program's text (the seventh form; the later family's looks); each row that meets fmt, with fmt's text TOLD by the authors' own Lean function (tested against real Go, not proved from fmt's source: count such statements apart). THE CARD IS WHAT COUNTS. Prove the row's statement (the work); the ties are given (YtjhpmmpinkahaaaDoorTie.lean); close each card by the builder's one call (the guide's Derived/Test/ToyasCard.lean, 'card_holds'). Laid BY PROGRAM, IN A SANDBOX (cutbox-door.mjs). By AI agents, Wed Nov 11 2026. No macro, syntax, notation, axiom, sorry.
-/
import Derived.Test.YtjhpmmpinkahaaaDoorRows
import GoSem.ClaimSeven
namespace Go.Proofs.YtjhpmmpinkahaaaDoor
namespace Rows

/-- THE TIED CARD OF 'laws.FnObjKindUnknown'. -/
def fnObjKindUnknownCard : Claim7 := { stood := { row := fnObjKindUnknownRow, standIns := [], harness := (true, "9234af23c19ce7b0c4895b392d1d7ed60cc0851ad48904c42b3d39cbe0a7682a"), looks := false }, kinds := [], alts := [], laidByText := true, laidKinds := [.sentinel], laidTests := true, laidLooks := .later }
def FnObjKindUnknownCardSaid : Prop := Claim7.holds Tryd.pinned (.plain (OpenSpec.ofChange fnObjKindUnknownSpec)) fnObjKindUnknownCard

/-- THE SECOND FORM's CARD OF 'laws.FnObjKindUnknown'. -/
def fnObjKindUnknownUptoCard : Claim7 := { stood := { row := fnObjKindUnknownUptoRow, standIns := [], harness := (true, "9234af23c19ce7b0c4895b392d1d7ed60cc0851ad48904c42b3d39cbe0a7682a"), looks := false }, kinds := [], alts := [], laidByText := true, laidKinds := [.sentinel], laidTests := true, laidLooks := .later }
def FnObjKindUnknownUptoCardSaid : Prop := Claim7.holds Tryd.pinned (.plain (OpenSpec.upto fnObjKindUnknownSpec)) fnObjKindUnknownUptoCard
end Rows
end Go.Proofs.YtjhpmmpinkahaaaDoor
