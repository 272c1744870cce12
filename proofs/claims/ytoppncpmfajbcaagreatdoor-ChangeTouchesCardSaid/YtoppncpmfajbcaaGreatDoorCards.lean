/-
  DERIVED. GIVEN WITH THE SEED: THE CARDS: each row of YtoppncpmfajbcaaGreatDoorRows.lean that lists a variable, with what it lists TIED to the program's text (the seventh form; the later family's looks); each row that meets fmt, with fmt's text TOLD by the authors' own Lean function (tested against real Go, not proved from fmt's source: count such statements apart). THE CARD IS WHAT COUNTS. Prove the row's statement (the work); the ties are given (YtoppncpmfajbcaaGreatDoorTie.lean); close each card by the builder's one call (the guide's Derived/Test/ToyasCard.lean, 'card_holds'). Laid BY PROGRAM, IN A SANDBOX (cutbox-door.mjs). By AI agents, Wed Nov 11 2026. No macro, syntax, notation, axiom, sorry.
-/
import Derived.Test.YtoppncpmfajbcaaGreatDoorRows
import GoSem.ClaimSeven
namespace Go.Proofs.YtoppncpmfajbcaaGreatDoor
namespace Rows

/-- THE TIED CARD OF 'rosettalaw15.ChangeTouches'. -/
def changeTouchesCard : Claim7 := { stood := { row := changeTouchesRow, standIns := [], harness := (true, "232caae0ed8678576b2805ba12f4185a9473f68d88df5caeb09f7352e947229b"), looks := true }, kinds := [], alts := [], laidByText := true, laidKinds := [.data, .data, .data, .data, .sentinel, .sentinel, .pinned], laidTests := true, laidLooks := .later }
def ChangeTouchesCardSaid : Prop := Claim7.holds Tryz.pinned (.plain (OpenSpec.ofChange changeTouchesSpec)) changeTouchesCard

/-- THE SECOND FORM's CARD OF 'rosettalaw15.ChangeTouches'. -/
def changeTouchesUptoCard : Claim7 := { stood := { row := changeTouchesUptoRow, standIns := [], harness := (true, "232caae0ed8678576b2805ba12f4185a9473f68d88df5caeb09f7352e947229b"), looks := true }, kinds := [], alts := [], laidByText := true, laidKinds := [.data, .data, .data, .data, .sentinel, .sentinel, .pinned], laidTests := true, laidLooks := .later }
def ChangeTouchesUptoCardSaid : Prop := Claim7.holds Tryz.pinned (.plain (OpenSpec.upto changeTouchesSpec)) changeTouchesUptoCard
end Rows
end Go.Proofs.YtoppncpmfajbcaaGreatDoor
