/-
  DERIVED. GIVEN WITH THE SEED: THE CARDS: each row of YtoijkbkcfbbmfaaGreatDoorRows.lean that lists a variable, with what it lists TIED to the program's text (the seventh form; the later family's looks); each row that meets fmt, with fmt's text TOLD by the authors' own Lean function (tested against real Go, not proved from fmt's source: count such statements apart). THE CARD IS WHAT COUNTS. Prove the row's statement (the work); the ties are given (YtoijkbkcfbbmfaaGreatDoorTie.lean); close each card by the builder's one call (the guide's Derived/Test/ToyasCard.lean, 'card_holds'). Laid BY PROGRAM, IN A SANDBOX (cutbox-door.mjs). By AI agents, Wed Nov 11 2026. No macro, syntax, notation, axiom, sorry.
-/
import Derived.Test.YtoijkbkcfbbmfaaGreatDoorRows
import GoSem.ClaimSeven
namespace Go.Proofs.YtoijkbkcfbbmfaaGreatDoor
namespace Rows

/-- THE TIED CARD OF 'laws.FnExactFilter'. -/
def fnExactFilterCard : Claim7 := { stood := { row := fnExactFilterRow, standIns := [], harness := (true, "ca512cffb0ac79ee7c60d3cbcc1466fe3de4a268dc3f52e92b00ddd873f54a01"), looks := true }, kinds := [], alts := [], laidByText := true, laidKinds := [.data, .data, .data, .data], laidTests := true, laidLooks := .later }
def FnExactFilterCardSaid : Prop := Claim7.holds Tryz.pinned (.plain (OpenSpec.ofChange fnExactFilterSpec)) fnExactFilterCard

/-- THE SECOND FORM's CARD OF 'laws.FnExactFilter'. -/
def fnExactFilterUptoCard : Claim7 := { stood := { row := fnExactFilterUptoRow, standIns := [], harness := (true, "ca512cffb0ac79ee7c60d3cbcc1466fe3de4a268dc3f52e92b00ddd873f54a01"), looks := true }, kinds := [], alts := [], laidByText := true, laidKinds := [.data, .data, .data, .data], laidTests := true, laidLooks := .later }
def FnExactFilterUptoCardSaid : Prop := Claim7.holds Tryz.pinned (.plain (OpenSpec.upto fnExactFilterSpec)) fnExactFilterUptoCard
end Rows
end Go.Proofs.YtoijkbkcfbbmfaaGreatDoor
