/-
  DERIVED. GIVEN WITH THE SEED: THE CARDS: each row of YtgbkbgiogdhnaaaGreatDoorRows.lean that lists a variable, with what it lists TIED to the program's text (the seventh form; the later family's looks); each row that meets fmt, with fmt's text TOLD by the authors' own Lean function (tested against real Go, not proved from fmt's source: count such statements apart). THE CARD IS WHAT COUNTS. Prove the row's statement (the work); the ties are given (YtgbkbgiogdhnaaaGreatDoorTie.lean); close each card by the builder's one call (the guide's Derived/Test/ToyasCard.lean, 'card_holds'). Laid BY PROGRAM, IN A SANDBOX (cutbox-door.mjs). By AI agents, Wed Nov 11 2026. No macro, syntax, notation, axiom, sorry.
-/
import Derived.Test.YtgbkbgiogdhnaaaGreatDoorRows
import GoSem.ClaimSeven
namespace Go.Proofs.YtgbkbgiogdhnaaaGreatDoor
namespace Rows

/-- THE TIED CARD OF 'rosettalaw23.JsonoutLong'. -/
def jsonoutLongCard : Claim7 := { stood := { row := jsonoutLongRow, standIns := [], harness := (true, "d57c92b9f53a4e0ccd2dfa53b601ef6d897b27865ca07ac75048316ab88d2353"), looks := true }, kinds := [], alts := [], laidByText := true, laidKinds := [.data, .data, .data, .data, .sentinel, .sentinel, .pinned], laidTests := true, laidLooks := .later }
def JsonoutLongCardSaid : Prop := Claim7.holds Tryz.pinned (.plain (OpenSpec.ofChange jsonoutLongSpec)) jsonoutLongCard

/-- THE TIED CARD OF 'rosettalaw23.JsonoutQuotes'. -/
def jsonoutQuotesCard : Claim7 := { stood := { row := jsonoutQuotesRow, standIns := [], harness := (true, "d57c92b9f53a4e0ccd2dfa53b601ef6d897b27865ca07ac75048316ab88d2353"), looks := true }, kinds := [], alts := [], laidByText := true, laidKinds := [.data, .data, .data, .data, .sentinel, .sentinel, .pinned], laidTests := true, laidLooks := .later }
def JsonoutQuotesCardSaid : Prop := Claim7.holds Tryz.pinned (.plain (OpenSpec.ofChange jsonoutQuotesSpec)) jsonoutQuotesCard

/-- THE SECOND FORM's CARD OF 'rosettalaw23.JsonoutLong'. -/
def jsonoutLongUptoCard : Claim7 := { stood := { row := jsonoutLongUptoRow, standIns := [], harness := (true, "d57c92b9f53a4e0ccd2dfa53b601ef6d897b27865ca07ac75048316ab88d2353"), looks := true }, kinds := [], alts := [], laidByText := true, laidKinds := [.data, .data, .data, .data, .sentinel, .sentinel, .pinned], laidTests := true, laidLooks := .later }
def JsonoutLongUptoCardSaid : Prop := Claim7.holds Tryz.pinned (.plain (OpenSpec.upto jsonoutLongSpec)) jsonoutLongUptoCard

/-- THE SECOND FORM's CARD OF 'rosettalaw23.JsonoutQuotes'. -/
def jsonoutQuotesUptoCard : Claim7 := { stood := { row := jsonoutQuotesUptoRow, standIns := [], harness := (true, "d57c92b9f53a4e0ccd2dfa53b601ef6d897b27865ca07ac75048316ab88d2353"), looks := true }, kinds := [], alts := [], laidByText := true, laidKinds := [.data, .data, .data, .data, .sentinel, .sentinel, .pinned], laidTests := true, laidLooks := .later }
def JsonoutQuotesUptoCardSaid : Prop := Claim7.holds Tryz.pinned (.plain (OpenSpec.upto jsonoutQuotesSpec)) jsonoutQuotesUptoCard
end Rows
end Go.Proofs.YtgbkbgiogdhnaaaGreatDoor
