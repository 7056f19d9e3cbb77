/-
  DERIVED. GIVEN WITH THE SEED: THE CARDS: each row of YtbemlaalccoepaaDoorRows.lean that lists a variable, with what it lists TIED to the program's text (the seventh form; the later family's looks); each row that meets fmt, with fmt's text TOLD by the authors' own Lean function (tested against real Go, not proved from fmt's source: count such statements apart). THE CARD IS WHAT COUNTS. Prove the row's statement (the work); the ties are given (YtbemlaalccoepaaDoorTie.lean); close each card by the builder's one call (the guide's Derived/Test/ToyasCard.lean, 'card_holds'). Laid BY PROGRAM, IN A SANDBOX (cutbox-door.mjs). By AI agents, Wed Nov 11 2026. No macro, syntax, notation, axiom, sorry.
-/
import Derived.Test.YtbemlaalccoepaaDoorRows
import GoSem.ClaimSeven
namespace Go.Proofs.YtbemlaalccoepaaDoor
namespace Rows

/-- THE TIED CARD OF 'laws.FnCapsDelete'. -/
def fnCapsDeleteCard : Claim7 := { stood := { row := fnCapsDeleteRow, standIns := [], harness := (true, "988cac65efe2587dcec9bba0e9e44426611d03c1e942f0da36d080eb54b55c57"), looks := true }, kinds := [], alts := [], laidByText := true, laidKinds := [.data, .sentinel, .sentinel, .sentinel, .listed, .data, .sentinel, .sentinel, .sentinel, .sentinel, .sentinel, .pinned], laidTests := true, laidLooks := .later }
def FnCapsDeleteCardSaid : Prop := Claim7.holds Tryd.pinned (.plain (OpenSpec.ofChange fnCapsDeleteSpec)) fnCapsDeleteCard

/-- THE TIED CARD OF 'laws.FnCapsRead'. -/
def fnCapsReadCard : Claim7 := { stood := { row := fnCapsReadRow, standIns := [], harness := (true, "988cac65efe2587dcec9bba0e9e44426611d03c1e942f0da36d080eb54b55c57"), looks := true }, kinds := [], alts := [], laidByText := true, laidKinds := [.data, .sentinel, .sentinel, .sentinel, .listed, .data, .data, .sentinel, .sentinel, .sentinel, .sentinel, .sentinel, .pinned], laidTests := true, laidLooks := .later }
def FnCapsReadCardSaid : Prop := Claim7.holds Tryd.pinned (.plain (OpenSpec.ofChange fnCapsReadSpec)) fnCapsReadCard

/-- THE SECOND FORM's CARD OF 'laws.FnCapsDelete'. -/
def fnCapsDeleteUptoCard : Claim7 := { stood := { row := fnCapsDeleteUptoRow, standIns := [], harness := (true, "988cac65efe2587dcec9bba0e9e44426611d03c1e942f0da36d080eb54b55c57"), looks := true }, kinds := [], alts := [], laidByText := true, laidKinds := [.data, .sentinel, .sentinel, .sentinel, .listed, .data, .sentinel, .sentinel, .sentinel, .sentinel, .sentinel, .pinned], laidTests := true, laidLooks := .later }
def FnCapsDeleteUptoCardSaid : Prop := Claim7.holds Tryd.pinned (.plain (OpenSpec.upto fnCapsDeleteSpec)) fnCapsDeleteUptoCard

/-- THE SECOND FORM's CARD OF 'laws.FnCapsRead'. -/
def fnCapsReadUptoCard : Claim7 := { stood := { row := fnCapsReadUptoRow, standIns := [], harness := (true, "988cac65efe2587dcec9bba0e9e44426611d03c1e942f0da36d080eb54b55c57"), looks := true }, kinds := [], alts := [], laidByText := true, laidKinds := [.data, .sentinel, .sentinel, .sentinel, .listed, .data, .data, .sentinel, .sentinel, .sentinel, .sentinel, .sentinel, .pinned], laidTests := true, laidLooks := .later }
def FnCapsReadUptoCardSaid : Prop := Claim7.holds Tryd.pinned (.plain (OpenSpec.upto fnCapsReadSpec)) fnCapsReadUptoCard
end Rows
end Go.Proofs.YtbemlaalccoepaaDoor
