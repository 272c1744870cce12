/-
  DERIVED. GIVEN WITH THE SEED: THE CARDS: each row of YtbhigefbihpnlaaGreatDoorRows.lean that lists a variable, with what it lists TIED to the program's text (the seventh form; the later family's looks); each row that meets fmt, with fmt's text TOLD by the authors' own Lean function (tested against real Go, not proved from fmt's source: count such statements apart). THE CARD IS WHAT COUNTS. Prove the row's statement (the work); the ties are given (YtbhigefbihpnlaaGreatDoorTie.lean); close each card by the builder's one call (the guide's Derived/Test/ToyasCard.lean, 'card_holds'). Laid BY PROGRAM, IN A SANDBOX (cutbox-door.mjs). By AI agents, Wed Nov 11 2026. No macro, syntax, notation, axiom, sorry.
-/
import Derived.Test.YtbhigefbihpnlaaGreatDoorRows
import GoSem.ClaimSeven
namespace Go.Proofs.YtbhigefbihpnlaaGreatDoor
namespace Rows

/-- THE TIED CARD OF 'rosettalaw36.CborLimits'. -/
def cborLimitsCard : Claim7 := { stood := { row := cborLimitsRow, standIns := [], harness := (true, "5b8a09369f1ddf31eebb3099f3e1be72058e884048f38e341e388deb1cde31ab"), looks := true }, kinds := [], alts := [], laidByText := true, laidKinds := [.data, .data, .data, .data, .handle, .sentinel, .sentinel, .data, .pinned], laidTests := true, laidLooks := .later }
def CborLimitsCardSaid : Prop := Claim7.holds Tryz.pinned (.plain (OpenSpec.ofChange cborLimitsSpec)) cborLimitsCard

/-- THE TIED CARD OF 'rosettalaw36.CborWidths'. -/
def cborWidthsCard : Claim7 := { stood := { row := cborWidthsRow, standIns := [], harness := (true, "5b8a09369f1ddf31eebb3099f3e1be72058e884048f38e341e388deb1cde31ab"), looks := true }, kinds := [], alts := [], laidByText := true, laidKinds := [.data, .data, .data, .data, .handle, .sentinel, .sentinel, .data, .pinned], laidTests := true, laidLooks := .later }
def CborWidthsCardSaid : Prop := Claim7.holds Tryz.pinned (.plain (OpenSpec.ofChange cborWidthsSpec)) cborWidthsCard

/-- THE SECOND FORM's CARD OF 'rosettalaw36.CborLimits'. -/
def cborLimitsUptoCard : Claim7 := { stood := { row := cborLimitsUptoRow, standIns := [], harness := (true, "5b8a09369f1ddf31eebb3099f3e1be72058e884048f38e341e388deb1cde31ab"), looks := true }, kinds := [], alts := [], laidByText := true, laidKinds := [.data, .data, .data, .data, .handle, .sentinel, .sentinel, .data, .pinned], laidTests := true, laidLooks := .later }
def CborLimitsUptoCardSaid : Prop := Claim7.holds Tryz.pinned (.plain (OpenSpec.upto cborLimitsSpec)) cborLimitsUptoCard

/-- THE SECOND FORM's CARD OF 'rosettalaw36.CborWidths'. -/
def cborWidthsUptoCard : Claim7 := { stood := { row := cborWidthsUptoRow, standIns := [], harness := (true, "5b8a09369f1ddf31eebb3099f3e1be72058e884048f38e341e388deb1cde31ab"), looks := true }, kinds := [], alts := [], laidByText := true, laidKinds := [.data, .data, .data, .data, .handle, .sentinel, .sentinel, .data, .pinned], laidTests := true, laidLooks := .later }
def CborWidthsUptoCardSaid : Prop := Claim7.holds Tryz.pinned (.plain (OpenSpec.upto cborWidthsSpec)) cborWidthsUptoCard
end Rows
end Go.Proofs.YtbhigefbihpnlaaGreatDoor
