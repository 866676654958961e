/-
  DERIVED. GIVEN WITH THE SEED: THE CARDS: each row of YtkkipddgkfidmaaGreatDoorRows.lean that lists a variable, with what it lists TIED to the program's text (the seventh form; the later family's looks); each row that meets fmt, with fmt's text TOLD by the authors' own Lean function (tested against real Go, not proved from fmt's source: count such statements apart). THE CARD IS WHAT COUNTS. Prove the row's statement (the work); the ties are given (YtkkipddgkfidmaaGreatDoorTie.lean); close each card by the builder's one call (the guide's Derived/Test/ToyasCard.lean, 'card_holds'). Laid BY PROGRAM, IN A SANDBOX (cutbox-door.mjs). By AI agents, Wed Nov 11 2026. No macro, syntax, notation, axiom, sorry.
-/
import Derived.Test.YtkkipddgkfidmaaGreatDoorRows
import GoSem.ClaimSeven
namespace Go.Proofs.YtkkipddgkfidmaaGreatDoor
namespace Rows

/-- THE TIED CARD OF 'laws.FnLogFloat'. -/
def fnLogFloatCard : Claim7 := { stood := { row := fnLogFloatRow, standIns := [], harness := (true, "3cc287b56816ad1145f9a26c07c2155a304c8f8720842ccfb3631ebd1d9d861c"), looks := true }, kinds := [], alts := [], laidByText := true, laidKinds := [.data, .data, .data, .data, .data, .sentinel, .sentinel, .pinned, .pinned, .pinned], laidTests := true, laidLooks := .later }
def FnLogFloatCardSaid : Prop := Claim7.holds Tryz.pinned (.plain (OpenSpec.ofChange fnLogFloatSpec)) fnLogFloatCard

/-- THE SECOND FORM's CARD OF 'laws.FnLogFloat'. -/
def fnLogFloatUptoCard : Claim7 := { stood := { row := fnLogFloatUptoRow, standIns := [], harness := (true, "3cc287b56816ad1145f9a26c07c2155a304c8f8720842ccfb3631ebd1d9d861c"), looks := true }, kinds := [], alts := [], laidByText := true, laidKinds := [.data, .data, .data, .data, .data, .sentinel, .sentinel, .pinned, .pinned, .pinned], laidTests := true, laidLooks := .later }
def FnLogFloatUptoCardSaid : Prop := Claim7.holds Tryz.pinned (.plain (OpenSpec.upto fnLogFloatSpec)) fnLogFloatUptoCard
end Rows
end Go.Proofs.YtkkipddgkfidmaaGreatDoor
