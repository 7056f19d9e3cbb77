/-
  DERIVED. GIVEN WITH THE SEED: THE CARDS: each row of YtacndeejapfkiaaDoorRows.lean that lists a variable, with what it lists TIED to the program's text (the seventh form; the later family's looks); each row that meets fmt, with fmt's text TOLD by the authors' own Lean function (tested against real Go, not proved from fmt's source: count such statements apart). THE CARD IS WHAT COUNTS. Prove the row's statement (the work); the ties are given (YtacndeejapfkiaaDoorTie.lean); close each card by the builder's one call (the guide's Derived/Test/ToyasCard.lean, 'card_holds'). Laid BY PROGRAM, IN A SANDBOX (cutbox-door.mjs). By AI agents, Wed Nov 11 2026. No macro, syntax, notation, axiom, sorry.
-/
import Derived.Test.YtacndeejapfkiaaDoorRows
import GoSem.ClaimSeven
namespace Go.Proofs.YtacndeejapfkiaaDoor
namespace Rows

/-- THE TIED CARD OF 'laws.FnConfCase'. -/
def fnConfCaseCard : Claim7 := { stood := { row := fnConfCaseRow, standIns := [], harness := (true, "fea332f8333ff5611396ac2afbb52d1a290373175075c4fabda34aff28d5b0cb"), looks := false }, kinds := [], alts := [], laidByText := true, laidKinds := [.data, .data, .data, .pinned, .pinned], laidTests := true, laidLooks := .later }
def FnConfCaseCardSaid : Prop := Claim7.holds Tryd.pinned (.plain (OpenSpec.ofChange fnConfCaseSpec)) fnConfCaseCard

/-- THE TIED CARD OF 'laws.FnConfOthers'. -/
def fnConfOthersCard : Claim7 := { stood := { row := fnConfOthersRow, standIns := [], harness := (true, "fea332f8333ff5611396ac2afbb52d1a290373175075c4fabda34aff28d5b0cb"), looks := false }, kinds := [], alts := [], laidByText := true, laidKinds := [.data, .data, .data, .pinned, .pinned], laidTests := true, laidLooks := .later }
def FnConfOthersCardSaid : Prop := Claim7.holds Tryd.pinned (.plain (OpenSpec.ofChange fnConfOthersSpec)) fnConfOthersCard

/-- THE SECOND FORM's CARD OF 'laws.FnConfCase'. -/
def fnConfCaseUptoCard : Claim7 := { stood := { row := fnConfCaseUptoRow, standIns := [], harness := (true, "fea332f8333ff5611396ac2afbb52d1a290373175075c4fabda34aff28d5b0cb"), looks := false }, kinds := [], alts := [], laidByText := true, laidKinds := [.data, .data, .data, .pinned, .pinned], laidTests := true, laidLooks := .later }
def FnConfCaseUptoCardSaid : Prop := Claim7.holds Tryd.pinned (.plain (OpenSpec.upto fnConfCaseSpec)) fnConfCaseUptoCard

/-- THE SECOND FORM's CARD OF 'laws.FnConfOthers'. -/
def fnConfOthersUptoCard : Claim7 := { stood := { row := fnConfOthersUptoRow, standIns := [], harness := (true, "fea332f8333ff5611396ac2afbb52d1a290373175075c4fabda34aff28d5b0cb"), looks := false }, kinds := [], alts := [], laidByText := true, laidKinds := [.data, .data, .data, .pinned, .pinned], laidTests := true, laidLooks := .later }
def FnConfOthersUptoCardSaid : Prop := Claim7.holds Tryd.pinned (.plain (OpenSpec.upto fnConfOthersSpec)) fnConfOthersUptoCard
end Rows
end Go.Proofs.YtacndeejapfkiaaDoor
