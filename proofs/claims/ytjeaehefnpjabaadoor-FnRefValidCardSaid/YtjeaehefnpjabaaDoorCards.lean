/-
  DERIVED. GIVEN WITH THE SEED: THE CARDS: each row of YtjeaehefnpjabaaDoorRows.lean that lists a variable, with what it lists TIED to the program's text (the seventh form; the later family's looks); each row that meets fmt, with fmt's text TOLD by the authors' own Lean function (tested against real Go, not proved from fmt's source: count such statements apart). THE CARD IS WHAT COUNTS. Prove the row's statement (the work); the ties are given (YtjeaehefnpjabaaDoorTie.lean); close each card by the builder's one call (the guide's Derived/Test/ToyasCard.lean, 'card_holds'). Laid BY PROGRAM, IN A SANDBOX (cutbox-door.mjs). By AI agents, Wed Nov 11 2026. No macro, syntax, notation, axiom, sorry.
-/
import Derived.Test.YtjeaehefnpjabaaDoorRows
import GoSem.ClaimSeven
namespace Go.Proofs.YtjeaehefnpjabaaDoor
namespace Rows

/-- THE TIED CARD OF 'laws.FnRefValid'. -/
def fnRefValidCard : Claim7 := { stood := { row := fnRefValidRow, standIns := [], harness := (true, "4615a5e3d21012e924cbdddae1c8eafbdb6775dc3f9ba24ef205065d505b738a"), looks := false }, kinds := [], alts := [], laidByText := true, laidKinds := [.sentinel], laidTests := true, laidLooks := .later }
def FnRefValidCardSaid : Prop := Claim7.holds Tryd.pinned (.plain (OpenSpec.ofChange fnRefValidSpec)) fnRefValidCard

/-- THE SECOND FORM's CARD OF 'laws.FnRefValid'. -/
def fnRefValidUptoCard : Claim7 := { stood := { row := fnRefValidUptoRow, standIns := [], harness := (true, "4615a5e3d21012e924cbdddae1c8eafbdb6775dc3f9ba24ef205065d505b738a"), looks := false }, kinds := [], alts := [], laidByText := true, laidKinds := [.sentinel], laidTests := true, laidLooks := .later }
def FnRefValidUptoCardSaid : Prop := Claim7.holds Tryd.pinned (.plain (OpenSpec.upto fnRefValidSpec)) fnRefValidUptoCard
end Rows
end Go.Proofs.YtjeaehefnpjabaaDoor
