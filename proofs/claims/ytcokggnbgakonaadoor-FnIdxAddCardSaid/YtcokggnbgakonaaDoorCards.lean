/-
  DERIVED. GIVEN WITH THE SEED: THE CARDS: each row of YtcokggnbgakonaaDoorRows.lean that lists a variable, with what it lists TIED to the program's text (the seventh form; the later family's looks); each row that meets fmt, with fmt's text TOLD by the authors' own Lean function (tested against real Go, not proved from fmt's source: count such statements apart). THE CARD IS WHAT COUNTS. Prove the row's statement (the work); the ties are given (YtcokggnbgakonaaDoorTie.lean); close each card by the builder's one call (the guide's Derived/Test/ToyasCard.lean, 'card_holds'). Laid BY PROGRAM, IN A SANDBOX (cutbox-door.mjs). By AI agents, Wed Nov 11 2026. No macro, syntax, notation, axiom, sorry.
-/
import Derived.Test.YtcokggnbgakonaaDoorRows
import GoSem.ClaimSeven
namespace Go.Proofs.YtcokggnbgakonaaDoor
namespace Rows

/-- THE TIED CARD OF 'laws.FnIdxAdd'. -/
def fnIdxAddCard : Claim7 := { stood := { row := fnIdxAddRow, standIns := [], harness := (true, "337b055ea5379def29001095b2c7d694128c910bc3a2c6e864efd6bbb292b4d9"), looks := false }, kinds := [], alts := [], laidByText := true, laidKinds := [.sentinel], laidTests := true, laidLooks := .later }
def FnIdxAddCardSaid : Prop := Claim7.holds Tryd.pinned (.plain (OpenSpec.ofChange fnIdxAddSpec)) fnIdxAddCard

/-- THE SECOND FORM's CARD OF 'laws.FnIdxAdd'. -/
def fnIdxAddUptoCard : Claim7 := { stood := { row := fnIdxAddUptoRow, standIns := [], harness := (true, "337b055ea5379def29001095b2c7d694128c910bc3a2c6e864efd6bbb292b4d9"), looks := false }, kinds := [], alts := [], laidByText := true, laidKinds := [.sentinel], laidTests := true, laidLooks := .later }
def FnIdxAddUptoCardSaid : Prop := Claim7.holds Tryd.pinned (.plain (OpenSpec.upto fnIdxAddSpec)) fnIdxAddUptoCard
end Rows
end Go.Proofs.YtcokggnbgakonaaDoor
