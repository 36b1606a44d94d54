/-
  No cell of these rows narrows 'for every input' (looked for: loops, veiled, ifaces, maps, wideKeys, modest, calm, conditions, laid).
  DERIVED. THE GIVEN ROWS OF THIS SEAT. 2 by the template 'for every input the law returns true; each argument reads behind the call as it read before'; 0 by the template 'total and deterministic' (their statements: YbulkbdvqTotals.lean).
  GIVEN WITH THE SEED: the statements are not yours to turn. If you find one false, say at which input.
  Laid BY PROGRAM, IN A SANDBOX (cutbox-rows.mjs): the forced cells as the released guide's own fill.sh prints them over the translation da241d88733c56a0… (all of the seat's roots in one cut). By AI agents, Wed Nov 11 2026. No macro, syntax, notation, axiom, sorry.
-/
import Derived.Test.YbulkbdvqChecked
import GoSem.Claim
import GoSem.ClaimJoined
import GoSem.ClaimMapViews
import Derived.JoinedTies
import Derived.KernelRfl
namespace Go.Proofs.Ybulkbdvq
/- THE CELL 'sum', in the pinned program and in every row, IS THE sha256 OF THE DUMP (.gsa) THAT YbulkbdvqProg.lean LOADS. Nothing in Lean hashes anything: it is a label: what it is worth is what the hold of that sum in a sandbox is worth. -/
noncomputable def Yba.pinned : Pinned := { name := "ybulkbdvq", sum := "da241d88733c56a0596e23b4cf450f51515b64886b91d6f413ea8bf9e250f9eb", checked := Yba.checked }
namespace Rows
def none {H : Type} : Left H := { results := [], args := [] }

/-- 'stopout.LawS2746CFields': WHATEVER THE INPUT: true; the input reads as it did. -/
def lawS2746CFieldsSpec : ChangeSpec := { name := "lawS2746CFields", fn := fun _ => fun
  | [d1, d2, d3, d4] => { results := [.lit (.bool true)], args := [d1, d2, d3, d4] }
  | _ => none }
def lawS2746CFieldsRow : OpenClaim := { program := "ybulkbdvq", sum := "da241d88733c56a0596e23b4cf450f51515b64886b91d6f413ea8bf9e250f9eb", func := "example.com/stopout/stopout.LawS2746CFields", spec := "lawS2746CFields", unfollowed := true, recurses := true, apart := false }
def LawS2746CFieldsSaid : Prop := lawS2746CFieldsRow.holds Yba.pinned (OpenSpec.ofChange lawS2746CFieldsSpec)

/-- ITS FALSE NEIGHBOUR: 'it returns false'. Refute it at one input. -/
def lawS2746CFieldsWrong : ChangeSpec := { name := "lawS2746CFields", fn := fun _ => fun
  | [d1, d2, d3, d4] => { results := [.lit (.bool false)], args := [d1, d2, d3, d4] }
  | _ => none }
def LawS2746CFieldsWrongFalsely : Prop := lawS2746CFieldsRow.holds Yba.pinned (OpenSpec.ofChange lawS2746CFieldsWrong)

/-- 'stopout.LawS2746CCompact': WHATEVER THE INPUT: true; the input reads as it did. -/
def lawS2746CCompactSpec : ChangeSpec := { name := "lawS2746CCompact", fn := fun _ => fun
  | [] => { results := [.lit (.bool true)], args := [] }
  | _ => none }
def lawS2746CCompactRow : OpenClaim := { program := "ybulkbdvq", sum := "da241d88733c56a0596e23b4cf450f51515b64886b91d6f413ea8bf9e250f9eb", func := "example.com/stopout/stopout.LawS2746CCompact", spec := "lawS2746CCompact", unfollowed := true, recurses := true, apart := false }
def LawS2746CCompactSaid : Prop := lawS2746CCompactRow.holds Yba.pinned (OpenSpec.ofChange lawS2746CCompactSpec)

/-- ITS FALSE NEIGHBOUR: 'it returns false'. Refute it at one input. -/
def lawS2746CCompactWrong : ChangeSpec := { name := "lawS2746CCompact", fn := fun _ => fun
  | [] => { results := [.lit (.bool false)], args := [] }
  | _ => none }
def LawS2746CCompactWrongFalsely : Prop := lawS2746CCompactRow.holds Yba.pinned (OpenSpec.ofChange lawS2746CCompactWrong)

end Rows
end Go.Proofs.Ybulkbdvq
