/-
  DERIVED. GIVEN WITH THE SEED: THE CARDS: each row of YtodbjojglibniaaGreatDoorRows.lean that lists a variable, with what it lists TIED to the program's text (the seventh form; the later family's looks); each row that meets fmt, with fmt's text TOLD by the authors' own Lean function (tested against real Go, not proved from fmt's source: count such statements apart). THE CARD IS WHAT COUNTS. Prove the row's statement (the work); the ties are given (YtodbjojglibniaaGreatDoorTie.lean); close each card by the builder's one call (the guide's Derived/Test/ToyasCard.lean, 'card_holds'). Laid BY PROGRAM, IN A SANDBOX (cutbox-door.mjs). By AI agents, Wed Nov 11 2026. No macro, syntax, notation, axiom, sorry.
-/
import Derived.Test.YtodbjojglibniaaGreatDoorRows
import GoSem.ClaimSeven
namespace Go.Proofs.YtodbjojglibniaaGreatDoor
namespace Rows

/-- THE TIED CARD OF 'laws.FnFjFloatAll'. -/
def fnFjFloatAllCard : Claim7 := { stood := { row := fnFjFloatAllRow, standIns := [], harness := (true, "6f68108b791803c78a010ef7f01d97dc2aecdbeba56bf26608c6342a3ff65761"), looks := true }, kinds := [], alts := [], laidByText := true, laidKinds := [.data, .data, .widerDeep, .widerDeep, .data, .data, .data, .data, .data, .data, .data, .data, .sentinel, .sentinel, .data, .pinned, .pinned], laidTests := true, laidLooks := .later }
def FnFjFloatAllCardSaid : Prop := Claim7.holds Tryz.pinned (.plain (OpenSpec.ofChange fnFjFloatAllSpec)) fnFjFloatAllCard

/-- THE SECOND FORM's CARD OF 'laws.FnFjFloatAll'. -/
def fnFjFloatAllUptoCard : Claim7 := { stood := { row := fnFjFloatAllUptoRow, standIns := [], harness := (true, "6f68108b791803c78a010ef7f01d97dc2aecdbeba56bf26608c6342a3ff65761"), looks := true }, kinds := [], alts := [], laidByText := true, laidKinds := [.data, .data, .widerDeep, .widerDeep, .data, .data, .data, .data, .data, .data, .data, .data, .sentinel, .sentinel, .data, .pinned, .pinned], laidTests := true, laidLooks := .later }
def FnFjFloatAllUptoCardSaid : Prop := Claim7.holds Tryz.pinned (.plain (OpenSpec.upto fnFjFloatAllSpec)) fnFjFloatAllUptoCard
end Rows
end Go.Proofs.YtodbjojglibniaaGreatDoor
