/-
  DERIVED. GIVEN WITH THE SEED: THE CARDS: each row of YtlkanldhfcgdpaaDoorRows.lean that lists a variable, with what it lists TIED to the program's text (the seventh form; the later family's looks); each row that meets fmt, with fmt's text TOLD by the authors' own Lean function (tested against real Go, not proved from fmt's source: count such statements apart). THE CARD IS WHAT COUNTS. Prove the row's statement (the work); the ties are given (YtlkanldhfcgdpaaDoorTie.lean); close each card by the builder's one call (the guide's Derived/Test/ToyasCard.lean, 'card_holds'). Laid BY PROGRAM, IN A SANDBOX (cutbox-door.mjs). By AI agents, Wed Nov 11 2026. No macro, syntax, notation, axiom, sorry.
-/
import Derived.Test.YtlkanldhfcgdpaaDoorRows
import GoSem.ClaimSeven
namespace Go.Proofs.YtlkanldhfcgdpaaDoor
namespace Rows

/-- THE TIED CARD OF 'rosettalaw22.JsonBlanks'. -/
def jsonBlanksCard : Claim7 := { stood := { row := jsonBlanksRow, standIns := [], harness := (true, "fdebbf01ec770ce1859bed3afc39cf436e5fce6402f5c3d0c71446fd05ddba08"), looks := true }, kinds := [], alts := [], laidByText := true, laidKinds := [.data, .data, .data, .data, .pinned], laidTests := true, laidLooks := .later }
def JsonBlanksCardSaid : Prop := Claim7.holds Tryd.pinned (.plain (OpenSpec.ofChange jsonBlanksSpec)) jsonBlanksCard

/-- THE SECOND FORM's CARD OF 'rosettalaw22.JsonBlanks'. -/
def jsonBlanksUptoCard : Claim7 := { stood := { row := jsonBlanksUptoRow, standIns := [], harness := (true, "fdebbf01ec770ce1859bed3afc39cf436e5fce6402f5c3d0c71446fd05ddba08"), looks := true }, kinds := [], alts := [], laidByText := true, laidKinds := [.data, .data, .data, .data, .pinned], laidTests := true, laidLooks := .later }
def JsonBlanksUptoCardSaid : Prop := Claim7.holds Tryd.pinned (.plain (OpenSpec.upto jsonBlanksSpec)) jsonBlanksUptoCard
end Rows
end Go.Proofs.YtlkanldhfcgdpaaDoor
