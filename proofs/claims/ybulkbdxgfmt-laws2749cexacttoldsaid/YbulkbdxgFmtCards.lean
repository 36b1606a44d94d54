/-
  DERIVED. GIVEN WITH THE SEED: THE CARDS: each row of YbulkbdxgFmtRows.lean that lists a variable, with what it lists TIED to the program's text (the seventh form; the later family's looks); each row that meets fmt, with fmt's text TOLD by the authors' own Lean function (tested against real Go, not proved from fmt's source: count such statements apart). THE CARD IS WHAT COUNTS. Prove the row's statement (the work); the ties are given (YbulkbdxgFmtTie.lean); close each card by the builder's one call (the guide's Derived/Test/ToyasCard.lean, 'card_holds'). Laid BY PROGRAM, IN A SANDBOX (cutbox-door.mjs). By AI agents, Wed Nov 11 2026. No macro, syntax, notation, axiom, sorry.
-/
import Derived.Test.YbulkbdxgFmtRows
import GoSem.ClaimSeven
namespace Go.Proofs.YbulkbdxgFmt
namespace Rows

/-- THE TOLD AND TIED CARD OF 'ring.LawS2749CExact'. -/
def lawS2749CExactCard : Claim7 := { stood := { row := lawS2749CExactRow, standIns := [], harness := (true, "9d41720a43a1fe4b6729b397a8c4db0cf5ec40439848f4f18a3bb5d30df7520f"), looks := true }, told := true, laidByText := true, laidKinds := [.data, .data, .data, .sentinel, .sentinel], laidTests := true, laidLooks := .later, goes := false }
def LawS2749CExactToldSaid : Prop := Claim7.holds Ybaf.pinned (.plain (OpenSpec.ofChange lawS2749CExactSpec)) lawS2749CExactCard
/-- ITS FALSE NEIGHBOUR. Refute it at one input. -/
def LawS2749CExactToldWrongFalsely : Prop := Claim7.holds Ybaf.pinned (.plain (OpenSpec.ofChange lawS2749CExactWrong)) lawS2749CExactCard

/-- THE TOLD AND TIED CARD OF 'ring.LawS2749CWellFormed'. -/
def lawS2749CWellFormedCard : Claim7 := { stood := { row := lawS2749CWellFormedRow, standIns := [], harness := (true, "9d41720a43a1fe4b6729b397a8c4db0cf5ec40439848f4f18a3bb5d30df7520f"), looks := true }, told := true, laidByText := true, laidKinds := [.data, .data, .data, .sentinel, .sentinel], laidTests := true, laidLooks := .later, goes := false }
def LawS2749CWellFormedToldSaid : Prop := Claim7.holds Ybaf.pinned (.plain (OpenSpec.ofChange lawS2749CWellFormedSpec)) lawS2749CWellFormedCard
/-- ITS FALSE NEIGHBOUR. Refute it at one input. -/
def LawS2749CWellFormedToldWrongFalsely : Prop := Claim7.holds Ybaf.pinned (.plain (OpenSpec.ofChange lawS2749CWellFormedWrong)) lawS2749CWellFormedCard
end Rows
end Go.Proofs.YbulkbdxgFmt
