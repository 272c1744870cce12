/-
  DERIVED. GIVEN WITH THE SEED: THE CARDS: each row of YtijoollonkibfaaGreatDoorRows.lean that lists a variable, with what it lists TIED to the program's text (the seventh form; the later family's looks); each row that meets fmt, with fmt's text TOLD by the authors' own Lean function (tested against real Go, not proved from fmt's source: count such statements apart). THE CARD IS WHAT COUNTS. Prove the row's statement (the work); the ties are given (YtijoollonkibfaaGreatDoorTie.lean); close each card by the builder's one call (the guide's Derived/Test/ToyasCard.lean, 'card_holds'). Laid BY PROGRAM, IN A SANDBOX (cutbox-door.mjs). By AI agents, Wed Nov 11 2026. No macro, syntax, notation, axiom, sorry.
-/
import Derived.Test.YtijoollonkibfaaGreatDoorRows
import GoSem.ClaimSeven
namespace Go.Proofs.YtijoollonkibfaaGreatDoor
namespace Rows

/-- THE TIED CARD OF 'rosettalaw22.JsonSpans'. -/
def jsonSpansCard : Claim7 := { stood := { row := jsonSpansRow, standIns := [], harness := (true, "447b0087343ef8ee152fa58dfd418f255f90153afea930ce4a36ce51c91c8c74"), looks := true }, kinds := [], alts := [], laidByText := true, laidKinds := [.data, .data, .data, .data, .sentinel, .sentinel, .pinned], laidTests := true, laidLooks := .later }
def JsonSpansCardSaid : Prop := Claim7.holds Tryz.pinned (.plain (OpenSpec.ofChange jsonSpansSpec)) jsonSpansCard

/-- THE SECOND FORM's CARD OF 'rosettalaw22.JsonSpans'. -/
def jsonSpansUptoCard : Claim7 := { stood := { row := jsonSpansUptoRow, standIns := [], harness := (true, "447b0087343ef8ee152fa58dfd418f255f90153afea930ce4a36ce51c91c8c74"), looks := true }, kinds := [], alts := [], laidByText := true, laidKinds := [.data, .data, .data, .data, .sentinel, .sentinel, .pinned], laidTests := true, laidLooks := .later }
def JsonSpansUptoCardSaid : Prop := Claim7.holds Tryz.pinned (.plain (OpenSpec.upto jsonSpansSpec)) jsonSpansUptoCard
end Rows
end Go.Proofs.YtijoollonkibfaaGreatDoor
