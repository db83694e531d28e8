/-
  DERIVED. GIVEN WITH THE SEED: THE CARDS: each row of YtbimfhaokgigkaaGreatDoorRows.lean that lists a variable, with what it lists TIED to the program's text (the seventh form; the later family's looks); each row that meets fmt, with fmt's text TOLD by the authors' own Lean function (tested against real Go, not proved from fmt's source: count such statements apart). THE CARD IS WHAT COUNTS. Prove the row's statement (the work); the ties are given (YtbimfhaokgigkaaGreatDoorTie.lean); close each card by the builder's one call (the guide's Derived/Test/ToyasCard.lean, 'card_holds'). Laid BY PROGRAM, IN A SANDBOX (cutbox-door.mjs). By AI agents, Wed Nov 11 2026. No macro, syntax, notation, axiom, sorry.
-/
import Derived.Test.YtbimfhaokgigkaaGreatDoorRows
import GoSem.ClaimSeven
namespace Go.Proofs.YtbimfhaokgigkaaGreatDoor
namespace Rows

/-- THE TIED CARD OF 'laws.FnJpGetFloat'. -/
def fnJpGetFloatCard : Claim7 := { stood := { row := fnJpGetFloatRow, standIns := [], harness := (true, "821054a4aefc7dcdefe2c3f421dc9a8303b0a261ae74803dfd5c8d8c8a1f3558"), looks := true }, kinds := [], alts := [], laidByText := true, laidKinds := [.data, .data, .widerDeep, .widerDeep, .data, .data, .data, .data, .data, .sentinel, .sentinel, .data, .data, .sentinel, .sentinel, .sentinel, .sentinel, .sentinel, .sentinel, .sentinel, .sentinel, .sentinel, .pinned, .pinned], laidTests := true, laidLooks := .later }
def FnJpGetFloatCardSaid : Prop := Claim7.holds Tryz.pinned (.plain (OpenSpec.ofChange fnJpGetFloatSpec)) fnJpGetFloatCard

/-- THE SECOND FORM's CARD OF 'laws.FnJpGetFloat'. -/
def fnJpGetFloatUptoCard : Claim7 := { stood := { row := fnJpGetFloatUptoRow, standIns := [], harness := (true, "821054a4aefc7dcdefe2c3f421dc9a8303b0a261ae74803dfd5c8d8c8a1f3558"), looks := true }, kinds := [], alts := [], laidByText := true, laidKinds := [.data, .data, .widerDeep, .widerDeep, .data, .data, .data, .data, .data, .sentinel, .sentinel, .data, .data, .sentinel, .sentinel, .sentinel, .sentinel, .sentinel, .sentinel, .sentinel, .sentinel, .sentinel, .pinned, .pinned], laidTests := true, laidLooks := .later }
def FnJpGetFloatUptoCardSaid : Prop := Claim7.holds Tryz.pinned (.plain (OpenSpec.upto fnJpGetFloatSpec)) fnJpGetFloatUptoCard
end Rows
end Go.Proofs.YtbimfhaokgigkaaGreatDoor
