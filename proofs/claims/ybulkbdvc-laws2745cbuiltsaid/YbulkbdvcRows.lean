/-
  No cell of these rows narrows 'for every input' (looked for: loops, veiled, ifaces, maps, wideKeys, modest, calm, conditions, laid).
  DERIVED. THE GIVEN ROWS OF THIS SEAT. 2 by the template 'for every input the law returns true; each argument reads behind the call as it read before'; 0 by the template 'total and deterministic' (their statements: YbulkbdvcTotals.lean).
  GIVEN WITH THE SEED: the statements are not yours to turn. If you find one false, say at which input.
  Laid BY PROGRAM, IN A SANDBOX (cutbox-rows.mjs): the forced cells as the released guide's own fill.sh prints them over the translation 1e62e9ddb6cb4415… (all of the seat's roots in one cut). By AI agents, Wed Nov 11 2026. No macro, syntax, notation, axiom, sorry.
-/
import Derived.Test.YbulkbdvcChecked
import GoSem.Claim
import GoSem.ClaimJoined
import GoSem.ClaimMapViews
import Derived.JoinedTies
import Derived.KernelRfl
namespace Go.Proofs.Ybulkbdvc
/- THE CELL 'sum', in the pinned program and in every row, IS THE sha256 OF THE DUMP (.gsa) THAT YbulkbdvcProg.lean LOADS. Nothing in Lean hashes anything: it is a label: what it is worth is what the hold of that sum in a sandbox is worth. -/
noncomputable def Yba.pinned : Pinned := { name := "ybulkbdvc", sum := "1e62e9ddb6cb44152faf36a37126c62c2ad9cb2fff2d82d27284aa1efbc0f4ea", checked := Yba.checked }
namespace Rows
def none {H : Type} : Left H := { results := [], args := [] }

/-- 'setfile.LawS2745CExact': WHATEVER THE INPUT: true; the input reads as it did. -/
def lawS2745CExactSpec : ChangeSpec := { name := "lawS2745CExact", fn := fun _ => fun
  | [d1, d2] => { results := [.lit (.bool true)], args := [d1, d2] }
  | _ => none }
def lawS2745CExactRow : OpenClaim := { program := "ybulkbdvc", sum := "1e62e9ddb6cb44152faf36a37126c62c2ad9cb2fff2d82d27284aa1efbc0f4ea", func := "example.com/est-to-utc/est-to-utc/internal/setfile.LawS2745CExact", spec := "lawS2745CExact", apart := false }
def LawS2745CExactSaid : Prop := lawS2745CExactRow.holds Yba.pinned (OpenSpec.ofChange lawS2745CExactSpec)

/-- ITS FALSE NEIGHBOUR: 'it returns false'. Refute it at one input. -/
def lawS2745CExactWrong : ChangeSpec := { name := "lawS2745CExact", fn := fun _ => fun
  | [d1, d2] => { results := [.lit (.bool false)], args := [d1, d2] }
  | _ => none }
def LawS2745CExactWrongFalsely : Prop := lawS2745CExactRow.holds Yba.pinned (OpenSpec.ofChange lawS2745CExactWrong)

/-- 'setfile.LawS2745CBuilt': WHATEVER THE INPUT: true; the input reads as it did. -/
def lawS2745CBuiltSpec : ChangeSpec := { name := "lawS2745CBuilt", fn := fun _ => fun
  | [d1, d2, d3, d4] => { results := [.lit (.bool true)], args := [d1, d2, d3, d4] }
  | _ => none }
def lawS2745CBuiltRow : OpenClaim := { program := "ybulkbdvc", sum := "1e62e9ddb6cb44152faf36a37126c62c2ad9cb2fff2d82d27284aa1efbc0f4ea", func := "example.com/est-to-utc/est-to-utc/internal/setfile.LawS2745CBuilt", spec := "lawS2745CBuilt", apart := false }
def LawS2745CBuiltSaid : Prop := lawS2745CBuiltRow.holds Yba.pinned (OpenSpec.ofChange lawS2745CBuiltSpec)

/-- ITS FALSE NEIGHBOUR: 'it returns false'. Refute it at one input. -/
def lawS2745CBuiltWrong : ChangeSpec := { name := "lawS2745CBuilt", fn := fun _ => fun
  | [d1, d2, d3, d4] => { results := [.lit (.bool false)], args := [d1, d2, d3, d4] }
  | _ => none }
def LawS2745CBuiltWrongFalsely : Prop := lawS2745CBuiltRow.holds Yba.pinned (OpenSpec.ofChange lawS2745CBuiltWrong)

end Rows
end Go.Proofs.Ybulkbdvc
