/-
  DERIVED. GIVEN WITH THE SEED: THE CARDS: each row of YtnjjgbcmjnfijaaGreatDoorRows.lean that lists a variable, with what it lists TIED to the program's text (the seventh form; the later family's looks); each row that meets fmt, with fmt's text TOLD by the authors' own Lean function (tested against real Go, not proved from fmt's source: count such statements apart). THE CARD IS WHAT COUNTS. Prove the row's statement (the work); the ties are given (YtnjjgbcmjnfijaaGreatDoorTie.lean); close each card by the builder's one call (the guide's Derived/Test/ToyasCard.lean, 'card_holds'). Laid BY PROGRAM, IN A SANDBOX (cutbox-door.mjs). By AI agents, Wed Nov 11 2026. No macro, syntax, notation, axiom, sorry.
-/
import Derived.Test.YtnjjgbcmjnfijaaGreatDoorRows
import GoSem.ClaimSeven
namespace Go.Proofs.YtnjjgbcmjnfijaaGreatDoor
namespace Rows

/-- THE TIED CARD OF 'laws.FnTinyAgain'. -/
def fnTinyAgainCard : Claim7 := { stood := { row := fnTinyAgainRow, standIns := [], harness := (true, "cb2d18551bf389fbe7ca86f59343849a3f76bae6caa23d062b84767768eb343e"), looks := true }, kinds := [], alts := [], laidByText := true, laidKinds := [.data, .data, .data, .sentinel], laidTests := true, laidLooks := .later }
def FnTinyAgainCardSaid : Prop := Claim7.holds Tryz.pinned (.plain (OpenSpec.ofChange fnTinyAgainSpec)) fnTinyAgainCard

/-- THE TIED CARD OF 'laws.FnTinyBack'. -/
def fnTinyBackCard : Claim7 := { stood := { row := fnTinyBackRow, standIns := [], harness := (true, "cb2d18551bf389fbe7ca86f59343849a3f76bae6caa23d062b84767768eb343e"), looks := true }, kinds := [], alts := [], laidByText := true, laidKinds := [.data, .data, .data, .sentinel], laidTests := true, laidLooks := .later }
def FnTinyBackCardSaid : Prop := Claim7.holds Tryz.pinned (.plain (OpenSpec.ofChange fnTinyBackSpec)) fnTinyBackCard

/-- THE SECOND FORM's CARD OF 'laws.FnTinyAgain'. -/
def fnTinyAgainUptoCard : Claim7 := { stood := { row := fnTinyAgainUptoRow, standIns := [], harness := (true, "cb2d18551bf389fbe7ca86f59343849a3f76bae6caa23d062b84767768eb343e"), looks := true }, kinds := [], alts := [], laidByText := true, laidKinds := [.data, .data, .data, .sentinel], laidTests := true, laidLooks := .later }
def FnTinyAgainUptoCardSaid : Prop := Claim7.holds Tryz.pinned (.plain (OpenSpec.upto fnTinyAgainSpec)) fnTinyAgainUptoCard

/-- THE SECOND FORM's CARD OF 'laws.FnTinyBack'. -/
def fnTinyBackUptoCard : Claim7 := { stood := { row := fnTinyBackUptoRow, standIns := [], harness := (true, "cb2d18551bf389fbe7ca86f59343849a3f76bae6caa23d062b84767768eb343e"), looks := true }, kinds := [], alts := [], laidByText := true, laidKinds := [.data, .data, .data, .sentinel], laidTests := true, laidLooks := .later }
def FnTinyBackUptoCardSaid : Prop := Claim7.holds Tryz.pinned (.plain (OpenSpec.upto fnTinyBackSpec)) fnTinyBackUptoCard
end Rows
end Go.Proofs.YtnjjgbcmjnfijaaGreatDoor
