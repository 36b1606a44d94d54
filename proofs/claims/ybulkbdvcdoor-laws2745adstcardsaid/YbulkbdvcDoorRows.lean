/-
  NARROWER THAN 'FOR EVERY INPUT', by the rows' own cells (each row's printed sentence says how): LawS2745AStdOnly: laid · LawS2745ADST: laid.
  DERIVED. THE GIVEN ROWS OF THIS SEAT. 2 by the template 'for every input the law returns true; each argument reads behind the call as it read before'; 0 by the template 'total and deterministic' (their statements: YbulkbdvcDoorTotals.lean).
  GIVEN WITH THE SEED: the statements are not yours to turn. If you find one false, say at which input.
  Laid BY PROGRAM, IN A SANDBOX (cutbox-rows.mjs): the forced cells as the released guide's own fill.sh prints them over the translation 77dd23164efa56a9… (all of the seat's roots in one cut). By AI agents, Wed Nov 11 2026. No macro, syntax, notation, axiom, sorry.
-/
import Derived.Test.YbulkbdvcDoorChecked
import GoSem.Claim
import GoSem.ClaimJoined
import GoSem.ClaimMapViews
import Derived.JoinedTies
import Derived.KernelRfl
namespace Go.Proofs.YbulkbdvcDoor
/- THE CELL 'sum', in the pinned program and in every row, IS THE sha256 OF THE DUMP (.gsa) THAT YbulkbdvcDoorProg.lean LOADS. Nothing in Lean hashes anything: it is a label: what it is worth is what the hold of that sum in a sandbox is worth. -/
noncomputable def Ybad.pinned : Pinned := { name := "ybulkbdvcdoor", sum := "77dd23164efa56a9e2a8a38e4e761a45134fa73166b2a0dc54f1e03fef638f0e", checked := Ybad.checked }
namespace Rows
def none {H : Type} : Left H := { results := [], args := [] }

/- WHAT THE LISTED PACKAGE-LEVEL VARIABLES READ AS WHEN THE CALL BEGINS. Each datum BY PROGRAM (the guide's laid-datum.mjs) off the statement by which the dump's own 'gosem.cut.vars' lays the variable. In a bare row this is a premise. The card (YbulkbdvcDoorCards.lean) ties it to the program's text. -/
def laid_example_com_est_to_utc_est_to_utc_internal_zonehistory_defaultStart {H : Type} : DataW H := .agg [.lit (.string [77]), .lit (.int .i64 0), .lit (.int .i64 2), .lit (.int .i64 3), .lit (.int .i64 7200)]
def laid_example_com_est_to_utc_est_to_utc_internal_zonehistory_defaultEnd {H : Type} : DataW H := .agg [.lit (.string [77]), .lit (.int .i64 0), .lit (.int .i64 1), .lit (.int .i64 11), .lit (.int .i64 7200)]

/-- 'zonehistory.LawS2745AStdOnly': WHATEVER THE INPUT: true; the input reads as it did. -/
def lawS2745AStdOnlySpec : ChangeSpec := { name := "lawS2745AStdOnly", vars := ["example.com/est-to-utc/est-to-utc/internal/zonehistory.defaultStart", "example.com/est-to-utc/est-to-utc/internal/zonehistory.defaultEnd"], fn := fun _ => fun
  | [d1, d2, d3, d4, d5, g1, g2] => { results := [.lit (.bool true)], args := [d1, d2, d3, d4, d5], vars := [g1, g2] }
  | _ => none }
def lawS2745AStdOnlyRow : OpenClaim := { program := "ybulkbdvcdoor", sum := "77dd23164efa56a9e2a8a38e4e761a45134fa73166b2a0dc54f1e03fef638f0e", func := "example.com/est-to-utc/est-to-utc/internal/zonehistory.LawS2745AStdOnly", spec := "lawS2745AStdOnly", named := ["example.com/est-to-utc/est-to-utc/internal/zonehistory.defaultStart", "example.com/est-to-utc/est-to-utc/internal/zonehistory.defaultEnd"], apart := false, laid := [("example.com/est-to-utc/est-to-utc/internal/zonehistory.defaultStart", laid_example_com_est_to_utc_est_to_utc_internal_zonehistory_defaultStart), ("example.com/est-to-utc/est-to-utc/internal/zonehistory.defaultEnd", laid_example_com_est_to_utc_est_to_utc_internal_zonehistory_defaultEnd)] }
def LawS2745AStdOnlySaid : Prop := lawS2745AStdOnlyRow.holds Ybad.pinned (OpenSpec.ofChange lawS2745AStdOnlySpec)

/-- ITS FALSE NEIGHBOUR: 'it returns false'. Refute it at one input. -/
def lawS2745AStdOnlyWrong : ChangeSpec := { name := "lawS2745AStdOnly", vars := ["example.com/est-to-utc/est-to-utc/internal/zonehistory.defaultStart", "example.com/est-to-utc/est-to-utc/internal/zonehistory.defaultEnd"], fn := fun _ => fun
  | [d1, d2, d3, d4, d5, g1, g2] => { results := [.lit (.bool false)], args := [d1, d2, d3, d4, d5], vars := [g1, g2] }
  | _ => none }
def LawS2745AStdOnlyWrongFalsely : Prop := lawS2745AStdOnlyRow.holds Ybad.pinned (OpenSpec.ofChange lawS2745AStdOnlyWrong)

/-- 'zonehistory.LawS2745ADST': WHATEVER THE INPUT: true; the input reads as it did. -/
def lawS2745ADSTSpec : ChangeSpec := { name := "lawS2745ADST", vars := ["example.com/est-to-utc/est-to-utc/internal/zonehistory.defaultStart", "example.com/est-to-utc/est-to-utc/internal/zonehistory.defaultEnd"], fn := fun _ => fun
  | [d1, d2, d3, d4, d5, d6, d7, d8, d9, d10, d11, g1, g2] => { results := [.lit (.bool true)], args := [d1, d2, d3, d4, d5, d6, d7, d8, d9, d10, d11], vars := [g1, g2] }
  | _ => none }
def lawS2745ADSTRow : OpenClaim := { program := "ybulkbdvcdoor", sum := "77dd23164efa56a9e2a8a38e4e761a45134fa73166b2a0dc54f1e03fef638f0e", func := "example.com/est-to-utc/est-to-utc/internal/zonehistory.LawS2745ADST", spec := "lawS2745ADST", named := ["example.com/est-to-utc/est-to-utc/internal/zonehistory.defaultStart", "example.com/est-to-utc/est-to-utc/internal/zonehistory.defaultEnd"], apart := false, laid := [("example.com/est-to-utc/est-to-utc/internal/zonehistory.defaultStart", laid_example_com_est_to_utc_est_to_utc_internal_zonehistory_defaultStart), ("example.com/est-to-utc/est-to-utc/internal/zonehistory.defaultEnd", laid_example_com_est_to_utc_est_to_utc_internal_zonehistory_defaultEnd)] }
def LawS2745ADSTSaid : Prop := lawS2745ADSTRow.holds Ybad.pinned (OpenSpec.ofChange lawS2745ADSTSpec)

/-- ITS FALSE NEIGHBOUR: 'it returns false'. Refute it at one input. -/
def lawS2745ADSTWrong : ChangeSpec := { name := "lawS2745ADST", vars := ["example.com/est-to-utc/est-to-utc/internal/zonehistory.defaultStart", "example.com/est-to-utc/est-to-utc/internal/zonehistory.defaultEnd"], fn := fun _ => fun
  | [d1, d2, d3, d4, d5, d6, d7, d8, d9, d10, d11, g1, g2] => { results := [.lit (.bool false)], args := [d1, d2, d3, d4, d5, d6, d7, d8, d9, d10, d11], vars := [g1, g2] }
  | _ => none }
def LawS2745ADSTWrongFalsely : Prop := lawS2745ADSTRow.holds Ybad.pinned (OpenSpec.ofChange lawS2745ADSTWrong)

end Rows
end Go.Proofs.YbulkbdvcDoor
