/-
  DERIVED. GIVEN WITH THE SEED: THE CARDS: each row of YtnnnagnjikdnnaaGreatDoorRows.lean that lists a variable, with what it lists TIED to the program's text (the seventh form; the later family's looks); each row that meets fmt, with fmt's text TOLD by the authors' own Lean function (tested against real Go, not proved from fmt's source: count such statements apart). THE CARD IS WHAT COUNTS. Prove the row's statement (the work); the ties are given (YtnnnagnjikdnnaaGreatDoorTie.lean); close each card by the builder's one call (the guide's Derived/Test/ToyasCard.lean, 'card_holds'). Laid BY PROGRAM, IN A SANDBOX (cutbox-door.mjs). By AI agents, Wed Nov 11 2026. No macro, syntax, notation, axiom, sorry.
-/
import Derived.Test.YtnnnagnjikdnnaaGreatDoorRows
import GoSem.ClaimSeven
namespace Go.Proofs.YtnnnagnjikdnnaaGreatDoor
namespace Rows

/-- THE TIED CARD OF 'rosettalaw31.IniOutTexts'. -/
def iniOutTextsCard : Claim7 := { stood := { row := iniOutTextsRow, standIns := [], harness := (true, "5edb2136f7072f97fc2185f14d3950c89fd80635c7a363d36014c159668f5647"), looks := true }, kinds := [], alts := [], laidByText := true, laidKinds := [.data, .data, .data, .data, .sentinel, .sentinel, .pinned], laidTests := true, laidLooks := .later }
def IniOutTextsCardSaid : Prop := Claim7.holds Tryz.pinned (.plain (OpenSpec.ofChange iniOutTextsSpec)) iniOutTextsCard

/-- THE SECOND FORM's CARD OF 'rosettalaw31.IniOutTexts'. -/
def iniOutTextsUptoCard : Claim7 := { stood := { row := iniOutTextsUptoRow, standIns := [], harness := (true, "5edb2136f7072f97fc2185f14d3950c89fd80635c7a363d36014c159668f5647"), looks := true }, kinds := [], alts := [], laidByText := true, laidKinds := [.data, .data, .data, .data, .sentinel, .sentinel, .pinned], laidTests := true, laidLooks := .later }
def IniOutTextsUptoCardSaid : Prop := Claim7.holds Tryz.pinned (.plain (OpenSpec.upto iniOutTextsSpec)) iniOutTextsUptoCard
end Rows
end Go.Proofs.YtnnnagnjikdnnaaGreatDoor
