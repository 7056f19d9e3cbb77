/-
  DERIVED. GIVEN WITH THE SEED: THE CARDS: each row of YtlboochpbplhlaaDoorRows.lean that lists a variable, with what it lists TIED to the program's text (the seventh form; the later family's looks); each row that meets fmt, with fmt's text TOLD by the authors' own Lean function (tested against real Go, not proved from fmt's source: count such statements apart). THE CARD IS WHAT COUNTS. Prove the row's statement (the work); the ties are given (YtlboochpbplhlaaDoorTie.lean); close each card by the builder's one call (the guide's Derived/Test/ToyasCard.lean, 'card_holds'). Laid BY PROGRAM, IN A SANDBOX (cutbox-door.mjs). By AI agents, Wed Nov 11 2026. No macro, syntax, notation, axiom, sorry.
-/
import Derived.Test.YtlboochpbplhlaaDoorRows
import GoSem.ClaimSeven
namespace Go.Proofs.YtlboochpbplhlaaDoor
namespace Rows

/-- THE TIED CARD OF 'laws.FnDeltaJoined'. -/
def fnDeltaJoinedCard : Claim7 := { stood := { row := fnDeltaJoinedRow, standIns := [], harness := (true, "a7a4a9275b284e8668affb04e3e23ef1c27bd2442621709abd305a54f72f3873"), looks := false }, kinds := [], alts := [], laidByText := true, laidKinds := [.sentinel, .sentinel, .sentinel, .data, .data, .sentinel], laidTests := true, laidLooks := .later }
def FnDeltaJoinedCardSaid : Prop := Claim7.holds Tryd.pinned (.plain (OpenSpec.ofChange fnDeltaJoinedSpec)) fnDeltaJoinedCard

/-- THE TIED CARD OF 'laws.FnDeltaMade'. -/
def fnDeltaMadeCard : Claim7 := { stood := { row := fnDeltaMadeRow, standIns := [], harness := (true, "a7a4a9275b284e8668affb04e3e23ef1c27bd2442621709abd305a54f72f3873"), looks := false }, kinds := [], alts := [], laidByText := true, laidKinds := [.sentinel, .sentinel, .sentinel, .data, .data, .sentinel], laidTests := true, laidLooks := .later }
def FnDeltaMadeCardSaid : Prop := Claim7.holds Tryd.pinned (.plain (OpenSpec.ofChange fnDeltaMadeSpec)) fnDeltaMadeCard

/-- THE TIED CARD OF 'laws.FnDeltaOther'. -/
def fnDeltaOtherCard : Claim7 := { stood := { row := fnDeltaOtherRow, standIns := [], harness := (true, "a7a4a9275b284e8668affb04e3e23ef1c27bd2442621709abd305a54f72f3873"), looks := false }, kinds := [], alts := [], laidByText := true, laidKinds := [.sentinel, .sentinel, .sentinel, .data, .data, .sentinel], laidTests := true, laidLooks := .later }
def FnDeltaOtherCardSaid : Prop := Claim7.holds Tryd.pinned (.plain (OpenSpec.ofChange fnDeltaOtherSpec)) fnDeltaOtherCard

/-- THE TIED CARD OF 'laws.FnDeltaDiff'. -/
def fnDeltaDiffCard : Claim7 := { stood := { row := fnDeltaDiffRow, standIns := [], harness := (true, "a7a4a9275b284e8668affb04e3e23ef1c27bd2442621709abd305a54f72f3873"), looks := false }, kinds := [], alts := [], laidByText := true, laidKinds := [.sentinel, .data, .data, .sentinel, .sentinel, .data, .data, .sentinel], laidTests := true, laidLooks := .later }
def FnDeltaDiffCardSaid : Prop := Claim7.holds Tryd.pinned (.plain (OpenSpec.ofChange fnDeltaDiffSpec)) fnDeltaDiffCard

/-- THE TIED CARD OF 'laws.FnDeltaDiffSelf'. -/
def fnDeltaDiffSelfCard : Claim7 := { stood := { row := fnDeltaDiffSelfRow, standIns := [], harness := (true, "a7a4a9275b284e8668affb04e3e23ef1c27bd2442621709abd305a54f72f3873"), looks := false }, kinds := [], alts := [], laidByText := true, laidKinds := [.sentinel, .data, .data, .sentinel, .sentinel, .data, .data, .sentinel], laidTests := true, laidLooks := .later }
def FnDeltaDiffSelfCardSaid : Prop := Claim7.holds Tryd.pinned (.plain (OpenSpec.ofChange fnDeltaDiffSelfSpec)) fnDeltaDiffSelfCard

/-- THE SECOND FORM's CARD OF 'laws.FnDeltaJoined'. -/
def fnDeltaJoinedUptoCard : Claim7 := { stood := { row := fnDeltaJoinedUptoRow, standIns := [], harness := (true, "a7a4a9275b284e8668affb04e3e23ef1c27bd2442621709abd305a54f72f3873"), looks := false }, kinds := [], alts := [], laidByText := true, laidKinds := [.sentinel, .sentinel, .sentinel, .data, .data, .sentinel], laidTests := true, laidLooks := .later }
def FnDeltaJoinedUptoCardSaid : Prop := Claim7.holds Tryd.pinned (.plain (OpenSpec.upto fnDeltaJoinedSpec)) fnDeltaJoinedUptoCard

/-- THE SECOND FORM's CARD OF 'laws.FnDeltaMade'. -/
def fnDeltaMadeUptoCard : Claim7 := { stood := { row := fnDeltaMadeUptoRow, standIns := [], harness := (true, "a7a4a9275b284e8668affb04e3e23ef1c27bd2442621709abd305a54f72f3873"), looks := false }, kinds := [], alts := [], laidByText := true, laidKinds := [.sentinel, .sentinel, .sentinel, .data, .data, .sentinel], laidTests := true, laidLooks := .later }
def FnDeltaMadeUptoCardSaid : Prop := Claim7.holds Tryd.pinned (.plain (OpenSpec.upto fnDeltaMadeSpec)) fnDeltaMadeUptoCard

/-- THE SECOND FORM's CARD OF 'laws.FnDeltaOther'. -/
def fnDeltaOtherUptoCard : Claim7 := { stood := { row := fnDeltaOtherUptoRow, standIns := [], harness := (true, "a7a4a9275b284e8668affb04e3e23ef1c27bd2442621709abd305a54f72f3873"), looks := false }, kinds := [], alts := [], laidByText := true, laidKinds := [.sentinel, .sentinel, .sentinel, .data, .data, .sentinel], laidTests := true, laidLooks := .later }
def FnDeltaOtherUptoCardSaid : Prop := Claim7.holds Tryd.pinned (.plain (OpenSpec.upto fnDeltaOtherSpec)) fnDeltaOtherUptoCard

/-- THE SECOND FORM's CARD OF 'laws.FnDeltaDiff'. -/
def fnDeltaDiffUptoCard : Claim7 := { stood := { row := fnDeltaDiffUptoRow, standIns := [], harness := (true, "a7a4a9275b284e8668affb04e3e23ef1c27bd2442621709abd305a54f72f3873"), looks := false }, kinds := [], alts := [], laidByText := true, laidKinds := [.sentinel, .data, .data, .sentinel, .sentinel, .data, .data, .sentinel], laidTests := true, laidLooks := .later }
def FnDeltaDiffUptoCardSaid : Prop := Claim7.holds Tryd.pinned (.plain (OpenSpec.upto fnDeltaDiffSpec)) fnDeltaDiffUptoCard

/-- THE SECOND FORM's CARD OF 'laws.FnDeltaDiffSelf'. -/
def fnDeltaDiffSelfUptoCard : Claim7 := { stood := { row := fnDeltaDiffSelfUptoRow, standIns := [], harness := (true, "a7a4a9275b284e8668affb04e3e23ef1c27bd2442621709abd305a54f72f3873"), looks := false }, kinds := [], alts := [], laidByText := true, laidKinds := [.sentinel, .data, .data, .sentinel, .sentinel, .data, .data, .sentinel], laidTests := true, laidLooks := .later }
def FnDeltaDiffSelfUptoCardSaid : Prop := Claim7.holds Tryd.pinned (.plain (OpenSpec.upto fnDeltaDiffSelfSpec)) fnDeltaDiffSelfUptoCard
end Rows
end Go.Proofs.YtlboochpbplhlaaDoor
