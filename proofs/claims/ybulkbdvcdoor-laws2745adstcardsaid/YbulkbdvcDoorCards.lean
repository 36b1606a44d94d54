/-
  DERIVED. GIVEN WITH THE SEED: THE CARDS: each row of YbulkbdvcDoorRows.lean that lists a variable, with what it lists TIED to the program's text (the seventh form; the later family's looks); each row that meets fmt, with fmt's text TOLD by the authors' own Lean function (tested against real Go, not proved from fmt's source: count such statements apart). THE CARD IS WHAT COUNTS. Prove the row's statement (the work); the ties are given (YbulkbdvcDoorTie.lean); close each card by the builder's one call (the guide's Derived/Test/ToyasCard.lean, 'card_holds'). Laid BY PROGRAM, IN A SANDBOX (cutbox-door.mjs). By AI agents, Wed Nov 11 2026. No macro, syntax, notation, axiom, sorry.
-/
import Derived.Test.YbulkbdvcDoorRows
import GoSem.ClaimSeven
namespace Go.Proofs.YbulkbdvcDoor
namespace Rows

/-- THE TIED CARD OF 'zonehistory.LawS2745AStdOnly'. -/
def lawS2745AStdOnlyCard : Claim7 := { stood := { row := lawS2745AStdOnlyRow, standIns := [], harness := (true, "41e6cc9cc12c1820eb4c1e4ee20a8ee4e9253ed19a88a540aedcbbda0dd76bdd"), looks := false }, kinds := [], alts := [], laidByText := true, laidKinds := [.data, .data], laidTests := true, laidLooks := .later }
def LawS2745AStdOnlyCardSaid : Prop := Claim7.holds Ybad.pinned (.plain (OpenSpec.ofChange lawS2745AStdOnlySpec)) lawS2745AStdOnlyCard

/-- THE TIED CARD OF 'zonehistory.LawS2745ADST'. -/
def lawS2745ADSTCard : Claim7 := { stood := { row := lawS2745ADSTRow, standIns := [], harness := (true, "41e6cc9cc12c1820eb4c1e4ee20a8ee4e9253ed19a88a540aedcbbda0dd76bdd"), looks := false }, kinds := [], alts := [], laidByText := true, laidKinds := [.data, .data], laidTests := true, laidLooks := .later }
def LawS2745ADSTCardSaid : Prop := Claim7.holds Ybad.pinned (.plain (OpenSpec.ofChange lawS2745ADSTSpec)) lawS2745ADSTCard
end Rows
end Go.Proofs.YbulkbdvcDoor
