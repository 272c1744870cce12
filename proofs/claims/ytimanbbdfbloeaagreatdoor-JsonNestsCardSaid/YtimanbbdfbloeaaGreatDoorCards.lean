/-
  DERIVED. GIVEN WITH THE SEED: THE CARDS: each row of YtimanbbdfbloeaaGreatDoorRows.lean that lists a variable, with what it lists TIED to the program's text (the seventh form; the later family's looks); each row that meets fmt, with fmt's text TOLD by the authors' own Lean function (tested against real Go, not proved from fmt's source: count such statements apart). THE CARD IS WHAT COUNTS. Prove the row's statement (the work); the ties are given (YtimanbbdfbloeaaGreatDoorTie.lean); close each card by the builder's one call (the guide's Derived/Test/ToyasCard.lean, 'card_holds'). Laid BY PROGRAM, IN A SANDBOX (cutbox-door.mjs). By AI agents, Wed Nov 11 2026. No macro, syntax, notation, axiom, sorry.
-/
import Derived.Test.YtimanbbdfbloeaaGreatDoorRows
import GoSem.ClaimSeven
namespace Go.Proofs.YtimanbbdfbloeaaGreatDoor
namespace Rows

/-- THE TIED CARD OF 'rosettalaw22.JsonNests'. -/
def jsonNestsCard : Claim7 := { stood := { row := jsonNestsRow, standIns := [], harness := (true, "4bd5d7eb7035f8da1d5286043dd0d6155eac3c249921c694052b142fd21211bd"), looks := true }, kinds := [], alts := [], laidByText := true, laidKinds := [.data, .data, .data, .data, .sentinel, .sentinel, .pinned], laidTests := true, laidLooks := .later }
def JsonNestsCardSaid : Prop := Claim7.holds Tryz.pinned (.plain (OpenSpec.ofChange jsonNestsSpec)) jsonNestsCard

/-- THE SECOND FORM's CARD OF 'rosettalaw22.JsonNests'. -/
def jsonNestsUptoCard : Claim7 := { stood := { row := jsonNestsUptoRow, standIns := [], harness := (true, "4bd5d7eb7035f8da1d5286043dd0d6155eac3c249921c694052b142fd21211bd"), looks := true }, kinds := [], alts := [], laidByText := true, laidKinds := [.data, .data, .data, .data, .sentinel, .sentinel, .pinned], laidTests := true, laidLooks := .later }
def JsonNestsUptoCardSaid : Prop := Claim7.holds Tryz.pinned (.plain (OpenSpec.upto jsonNestsSpec)) jsonNestsUptoCard
end Rows
end Go.Proofs.YtimanbbdfbloeaaGreatDoor
