/-
  DERIVED. GIVEN WITH THE SEED: THE CARDS: each row of YtfmkfnochjeleaaGreatDoorRows.lean that lists a variable, with what it lists TIED to the program's text (the seventh form; the later family's looks); each row that meets fmt, with fmt's text TOLD by the authors' own Lean function (tested against real Go, not proved from fmt's source: count such statements apart). THE CARD IS WHAT COUNTS. Prove the row's statement (the work); the ties are given (YtfmkfnochjeleaaGreatDoorTie.lean); close each card by the builder's one call (the guide's Derived/Test/ToyasCard.lean, 'card_holds'). Laid BY PROGRAM, IN A SANDBOX (cutbox-door.mjs). By AI agents, Wed Nov 11 2026. No macro, syntax, notation, axiom, sorry.
-/
import Derived.Test.YtfmkfnochjeleaaGreatDoorRows
import GoSem.ClaimSeven
namespace Go.Proofs.YtfmkfnochjeleaaGreatDoor
namespace Rows

/-- THE TIED CARD OF 'laws.FnReadPlace'. -/
def fnReadPlaceCard : Claim7 := { stood := { row := fnReadPlaceRow, standIns := [], harness := (true, "a7175efcda9431cad0a0d82e4d665d8065dee4c78611148bca08cd969ae19f60"), looks := true }, kinds := [], alts := [], laidByText := true, laidKinds := [.data, .data, .widerDeep, .widerDeep, .data, .data, .data, .data, .data, .data, .sentinel, .sentinel, .sentinel, .sentinel, .data, .pinned, .pinned, .pinned], laidTests := true, laidLooks := .later }
def FnReadPlaceCardSaid : Prop := Claim7.holds Tryz.pinned (.plain (OpenSpec.ofChange fnReadPlaceSpec)) fnReadPlaceCard

/-- THE SECOND FORM's CARD OF 'laws.FnReadPlace'. -/
def fnReadPlaceUptoCard : Claim7 := { stood := { row := fnReadPlaceUptoRow, standIns := [], harness := (true, "a7175efcda9431cad0a0d82e4d665d8065dee4c78611148bca08cd969ae19f60"), looks := true }, kinds := [], alts := [], laidByText := true, laidKinds := [.data, .data, .widerDeep, .widerDeep, .data, .data, .data, .data, .data, .data, .sentinel, .sentinel, .sentinel, .sentinel, .data, .pinned, .pinned, .pinned], laidTests := true, laidLooks := .later }
def FnReadPlaceUptoCardSaid : Prop := Claim7.holds Tryz.pinned (.plain (OpenSpec.upto fnReadPlaceSpec)) fnReadPlaceUptoCard
end Rows
end Go.Proofs.YtfmkfnochjeleaaGreatDoor
