/-
  DERIVED. GIVEN WITH THE SEED: THE CARDS: each row of YthpoiceceogdhaaDoorRows.lean that lists a variable, with what it lists TIED to the program's text (the seventh form; the later family's looks); each row that meets fmt, with fmt's text TOLD by the authors' own Lean function (tested against real Go, not proved from fmt's source: count such statements apart). THE CARD IS WHAT COUNTS. Prove the row's statement (the work); the ties are given (YthpoiceceogdhaaDoorTie.lean); close each card by the builder's one call (the guide's Derived/Test/ToyasCard.lean, 'card_holds'). Laid BY PROGRAM, IN A SANDBOX (cutbox-door.mjs). By AI agents, Wed Nov 11 2026. No macro, syntax, notation, axiom, sorry.
-/
import Derived.Test.YthpoiceceogdhaaDoorRows
import GoSem.ClaimSeven
namespace Go.Proofs.YthpoiceceogdhaaDoor
namespace Rows

/-- THE TIED CARD OF 'laws.FnObjHash'. -/
def fnObjHashCard : Claim7 := { stood := { row := fnObjHashRow, standIns := [], harness := (true, "499a296a496da3e96a4f726fce8f0c254519ece693631d4ed2233553c415073d"), looks := false }, kinds := [], alts := [], laidByText := true, laidKinds := [.data, .data, .data], laidTests := true, laidLooks := .later }
def FnObjHashCardSaid : Prop := Claim7.holds Tryd.pinned (.plain (OpenSpec.ofChange fnObjHashSpec)) fnObjHashCard

/-- THE SECOND FORM's CARD OF 'laws.FnObjHash'. -/
def fnObjHashUptoCard : Claim7 := { stood := { row := fnObjHashUptoRow, standIns := [], harness := (true, "499a296a496da3e96a4f726fce8f0c254519ece693631d4ed2233553c415073d"), looks := false }, kinds := [], alts := [], laidByText := true, laidKinds := [.data, .data, .data], laidTests := true, laidLooks := .later }
def FnObjHashUptoCardSaid : Prop := Claim7.holds Tryd.pinned (.plain (OpenSpec.upto fnObjHashSpec)) fnObjHashUptoCard
end Rows
end Go.Proofs.YthpoiceceogdhaaDoor
