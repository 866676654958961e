/-
  DERIVED. GIVEN WITH THE SEED: THE CARDS: each row of YtlnidnihhfjcpaaGreatDoorRows.lean that lists a variable, with what it lists TIED to the program's text (the seventh form; the later family's looks); each row that meets fmt, with fmt's text TOLD by the authors' own Lean function (tested against real Go, not proved from fmt's source: count such statements apart). THE CARD IS WHAT COUNTS. Prove the row's statement (the work); the ties are given (YtlnidnihhfjcpaaGreatDoorTie.lean); close each card by the builder's one call (the guide's Derived/Test/ToyasCard.lean, 'card_holds'). Laid BY PROGRAM, IN A SANDBOX (cutbox-door.mjs). By AI agents, Wed Nov 11 2026. No macro, syntax, notation, axiom, sorry.
-/
import Derived.Test.YtlnidnihhfjcpaaGreatDoorRows
import GoSem.ClaimSeven
namespace Go.Proofs.YtlnidnihhfjcpaaGreatDoor
namespace Rows

/-- THE TIED CARD OF 'laws.FnZLevels'. -/
def fnZLevelsCard : Claim7 := { stood := { row := fnZLevelsRow, standIns := [], harness := (true, "63a5d3686736535c223fd8efeb6b6aed609abfc3074ccd952336dfa8092619fb"), looks := true }, kinds := [], alts := [], laidByText := true, laidKinds := [.data, .data, .data, .data, .data, .data], laidTests := true, laidLooks := .later }
def FnZLevelsCardSaid : Prop := Claim7.holds Tryz.pinned (.plain (OpenSpec.ofChange fnZLevelsSpec)) fnZLevelsCard

/-- THE TIED CARD OF 'laws.FnZCallers'. -/
def fnZCallersCard : Claim7 := { stood := { row := fnZCallersRow, standIns := [], harness := (true, "63a5d3686736535c223fd8efeb6b6aed609abfc3074ccd952336dfa8092619fb"), looks := true }, kinds := [], alts := [], laidByText := true, laidKinds := [.data, .data, .data, .data, .data, .data], laidTests := true, laidLooks := .later }
def FnZCallersCardSaid : Prop := Claim7.holds Tryz.pinned (.plain (OpenSpec.ofChange fnZCallersSpec)) fnZCallersCard

/-- THE TIED CARD OF 'laws.FnZTextsParts'. -/
def fnZTextsPartsCard : Claim7 := { stood := { row := fnZTextsPartsRow, standIns := [], harness := (true, "63a5d3686736535c223fd8efeb6b6aed609abfc3074ccd952336dfa8092619fb"), looks := true }, kinds := [], alts := [], laidByText := true, laidKinds := [.data, .data, .data, .data, .data, .data, .data, .pinned], laidTests := true, laidLooks := .later }
def FnZTextsPartsCardSaid : Prop := Claim7.holds Tryz.pinned (.plain (OpenSpec.ofChange fnZTextsPartsSpec)) fnZTextsPartsCard

/-- THE TIED CARD OF 'laws.FnZLevelBack'. -/
def fnZLevelBackCard : Claim7 := { stood := { row := fnZLevelBackRow, standIns := [], harness := (true, "63a5d3686736535c223fd8efeb6b6aed609abfc3074ccd952336dfa8092619fb"), looks := true }, kinds := [], alts := [], laidByText := true, laidKinds := [.data, .data, .data, .data, .data, .data, .sentinel], laidTests := true, laidLooks := .later }
def FnZLevelBackCardSaid : Prop := Claim7.holds Tryz.pinned (.plain (OpenSpec.ofChange fnZLevelBackSpec)) fnZLevelBackCard

/-- THE TIED CARD OF 'laws.FnZNames'. -/
def fnZNamesCard : Claim7 := { stood := { row := fnZNamesRow, standIns := [], harness := (true, "63a5d3686736535c223fd8efeb6b6aed609abfc3074ccd952336dfa8092619fb"), looks := true }, kinds := [], alts := [], laidByText := true, laidKinds := [.data, .data, .data, .data, .data, .data], laidTests := true, laidLooks := .later }
def FnZNamesCardSaid : Prop := Claim7.holds Tryz.pinned (.plain (OpenSpec.ofChange fnZNamesSpec)) fnZNamesCard

/-- THE SECOND FORM's CARD OF 'laws.FnZLevels'. -/
def fnZLevelsUptoCard : Claim7 := { stood := { row := fnZLevelsUptoRow, standIns := [], harness := (true, "63a5d3686736535c223fd8efeb6b6aed609abfc3074ccd952336dfa8092619fb"), looks := true }, kinds := [], alts := [], laidByText := true, laidKinds := [.data, .data, .data, .data, .data, .data], laidTests := true, laidLooks := .later }
def FnZLevelsUptoCardSaid : Prop := Claim7.holds Tryz.pinned (.plain (OpenSpec.upto fnZLevelsSpec)) fnZLevelsUptoCard

/-- THE SECOND FORM's CARD OF 'laws.FnZCallers'. -/
def fnZCallersUptoCard : Claim7 := { stood := { row := fnZCallersUptoRow, standIns := [], harness := (true, "63a5d3686736535c223fd8efeb6b6aed609abfc3074ccd952336dfa8092619fb"), looks := true }, kinds := [], alts := [], laidByText := true, laidKinds := [.data, .data, .data, .data, .data, .data], laidTests := true, laidLooks := .later }
def FnZCallersUptoCardSaid : Prop := Claim7.holds Tryz.pinned (.plain (OpenSpec.upto fnZCallersSpec)) fnZCallersUptoCard

/-- THE SECOND FORM's CARD OF 'laws.FnZTextsParts'. -/
def fnZTextsPartsUptoCard : Claim7 := { stood := { row := fnZTextsPartsUptoRow, standIns := [], harness := (true, "63a5d3686736535c223fd8efeb6b6aed609abfc3074ccd952336dfa8092619fb"), looks := true }, kinds := [], alts := [], laidByText := true, laidKinds := [.data, .data, .data, .data, .data, .data, .data, .pinned], laidTests := true, laidLooks := .later }
def FnZTextsPartsUptoCardSaid : Prop := Claim7.holds Tryz.pinned (.plain (OpenSpec.upto fnZTextsPartsSpec)) fnZTextsPartsUptoCard

/-- THE SECOND FORM's CARD OF 'laws.FnZLevelBack'. -/
def fnZLevelBackUptoCard : Claim7 := { stood := { row := fnZLevelBackUptoRow, standIns := [], harness := (true, "63a5d3686736535c223fd8efeb6b6aed609abfc3074ccd952336dfa8092619fb"), looks := true }, kinds := [], alts := [], laidByText := true, laidKinds := [.data, .data, .data, .data, .data, .data, .sentinel], laidTests := true, laidLooks := .later }
def FnZLevelBackUptoCardSaid : Prop := Claim7.holds Tryz.pinned (.plain (OpenSpec.upto fnZLevelBackSpec)) fnZLevelBackUptoCard

/-- THE SECOND FORM's CARD OF 'laws.FnZNames'. -/
def fnZNamesUptoCard : Claim7 := { stood := { row := fnZNamesUptoRow, standIns := [], harness := (true, "63a5d3686736535c223fd8efeb6b6aed609abfc3074ccd952336dfa8092619fb"), looks := true }, kinds := [], alts := [], laidByText := true, laidKinds := [.data, .data, .data, .data, .data, .data], laidTests := true, laidLooks := .later }
def FnZNamesUptoCardSaid : Prop := Claim7.holds Tryz.pinned (.plain (OpenSpec.upto fnZNamesSpec)) fnZNamesUptoCard
end Rows
end Go.Proofs.YtlnidnihhfjcpaaGreatDoor
