/-
  DERIVED. GIVEN WITH THE SEED: THE CARDS: each row of YthjgfdjihlciaaaDoorRows.lean that lists a variable, with what it lists TIED to the program's text (the seventh form; the later family's looks); each row that meets fmt, with fmt's text TOLD by the authors' own Lean function (tested against real Go, not proved from fmt's source: count such statements apart). THE CARD IS WHAT COUNTS. Prove the row's statement (the work); the ties are given (YthjgfdjihlciaaaDoorTie.lean); close each card by the builder's one call (the guide's Derived/Test/ToyasCard.lean, 'card_holds'). Laid BY PROGRAM, IN A SANDBOX (cutbox-door.mjs). By AI agents, Wed Nov 11 2026. No macro, syntax, notation, axiom, sorry.
-/
import Derived.Test.YthjgfdjihlciaaaDoorRows
import GoSem.ClaimSeven
namespace Go.Proofs.YthjgfdjihlciaaaDoor
namespace Rows

/-- THE TIED CARD OF 'laws.FnTreeSort'. -/
def fnTreeSortCard : Claim7 := { stood := { row := fnTreeSortRow, standIns := [], harness := (true, "ac30e1978c3f1e1dcbccceedc2fceaa61cf280cbf357e44cb8c24214583c3c18"), looks := false }, kinds := [], alts := [], laidByText := true, laidKinds := [.sentinel], laidTests := true, laidLooks := .later }
def FnTreeSortCardSaid : Prop := Claim7.holds Tryd.pinned (.plain (OpenSpec.ofChange fnTreeSortSpec)) fnTreeSortCard

/-- THE SECOND FORM's CARD OF 'laws.FnTreeSort'. -/
def fnTreeSortUptoCard : Claim7 := { stood := { row := fnTreeSortUptoRow, standIns := [], harness := (true, "ac30e1978c3f1e1dcbccceedc2fceaa61cf280cbf357e44cb8c24214583c3c18"), looks := false }, kinds := [], alts := [], laidByText := true, laidKinds := [.sentinel], laidTests := true, laidLooks := .later }
def FnTreeSortUptoCardSaid : Prop := Claim7.holds Tryd.pinned (.plain (OpenSpec.upto fnTreeSortSpec)) fnTreeSortUptoCard
end Rows
end Go.Proofs.YthjgfdjihlciaaaDoor
