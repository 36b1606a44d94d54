/-
  Whole structs read out of and stored into blocks that are written out: the facts that the walks want.
-/
import Derived.Test.YbulkbdvcDoorProg
import Derived.Test.YbulkbdvcDoorBytes
import Derived.WalkKit
import Derived.Deep.MidRow
namespace Go.Proofs.YbulkbdvcDoor.B
open Go.RowKit

theorem heap_top (W : World) (o : Obj) (n : Nat) (hn : n = W.heap.size) : (W.alloc o).heap[n]? = some o := by subst hn; exact heap_alloc_new W o
theorem heap_past (W : World) (o : Obj) (n : Nat) (hn : n < W.heap.size) : (W.alloc o).heap[n]? = W.heap[n]? := Below.heap_alloc W o n hn

theorem setRow_top (W : World) (old new : Array Value) (t : TypeId) (n : Nat) (hn : n = W.heap.size) : (W.alloc (.cells old t)).setRow n new = W.alloc (.cells new t) := by
  subst hn
  unfold World.setRow World.alloc
  congr 1
  apply Array.ext_getElem?
  intro k
  simp only [Array.getElem?_modify, Array.getElem?_push]
  by_cases hk : k = W.heap.size
  · subst hk; simp
  · simp [hk, Ne.symm hk]
theorem setRow_past (W : World) (o : Obj) (new : Array Value) (n : Nat) (hn : n < W.heap.size) : (W.alloc o).setRow n new = (W.setRow n new).alloc o := by
  unfold World.setRow World.alloc
  congr 1
  apply Array.ext_getElem?
  intro k
  simp only [Array.getElem?_modify, Array.getElem?_push, Array.size_modify]
  by_cases hk : k = W.heap.size
  · subst hk; simp [Nat.ne_of_lt hn]
  · simp [hk]

theorem all_one {cs : Array Value} (h : cs.toList.all (·.oneCell') = true) : cs.all (·.oneCell') = true := by rw [← Array.all_toList]; exact h

/-- The load of a whole row, guarded by a test that said yes. -/
theorem load_row_g {P : Program} {ops : Array Oper} {rest : List Oper} {o : Oper} {a : Act} {w : World} {Q : Exit → Act → World → Prop} (hw : Region.wanted o (yielded ops a.tmps) = true) (ty : TypeId) (x : Operand) (ho : o.op = .load ty x)
    (g : Nat) (hx : a.eval x = .pointer (some ⟨g, 0, none⟩)) (t : TypeId) (cs : Array Value) (fr : Nat × Nat) (d : TypeDesc) (hg : w.heap[g]? = some (.cells cs t fr))
    (hu : P.underlying ty = some d) (hd : (match d with | .struct _ | .array _ _ => true | _ => false) = true) (hi : (P.info? ty).map (·.size) = some cs.size)
    (h : wpList P ops Q rest (a.put o.dst (.agg cs)) w) : wpList P ops Q (o :: rest) a w :=
  BigFrame.wpList_want hw fun _ hK => wp_load_row ty x ho g hx t cs fr d hg hu hd hi (hK _ _ h)

theorem info36 : (Ybad.prog.info? 36).map (fun i => i.size) = some 17 := by kernel_rfl
theorem info34 : (Ybad.prog.info? 34).map (fun i => i.size) = some 5 := by kernel_rfl
theorem info31 : (Ybad.prog.info? 31).map (fun i => i.size) = some 3 := by kernel_rfl

/-- The results of a function whose first result lies in a row, the second in a slot. -/
theorem results_row_tmp {P : Program} {fn : Func} {p u : Tmp} {ty : TypeId} (h : fn.results = #[.cell p ty, .tmp u]) (tmps : Array Value) (w : World) (g : Nat) (t : TypeId) (cs : Array Value) (fr : Nat × Nat) (d : TypeDesc) (x : Value)
    (hp : tmps.getD p undef = .pointer (some ⟨g, 0, none⟩)) (hx : tmps.getD u undef = x) (hg : w.heap[g]? = some (.cells cs t fr))
    (hu : P.underlying ty = some d) (hd : (match d with | .struct _ | .array _ _ => true | _ => false) = true) (hi : (P.info? ty).map (·.size) = some cs.size) :
    (results fn tmps).run P w = .ok (.tuple #[.agg cs, x]) w := by
  rw [results_cell_tmp h, hp, hx]
  simp [asAddr, run_loadVar_row w g t ty cs fr d hg hu hd hi, Result.andThen]

/-- .. the first in a slot, the second in a row. -/
theorem results_tmp_row {P : Program} {fn : Func} {p u : Tmp} {ty : TypeId} (h : fn.results = #[.tmp u, .cell p ty]) (tmps : Array Value) (w : World) (g : Nat) (t : TypeId) (cs : Array Value) (fr : Nat × Nat) (d : TypeDesc) (x : Value)
    (hp : tmps.getD p undef = .pointer (some ⟨g, 0, none⟩)) (hx : tmps.getD u undef = x) (hg : w.heap[g]? = some (.cells cs t fr))
    (hu : P.underlying ty = some d) (hd : (match d with | .struct _ | .array _ _ => true | _ => false) = true) (hi : (P.info? ty).map (·.size) = some cs.size) :
    (results fn tmps).run P w = .ok (.tuple #[x, .agg cs]) w := by
  have hp' : tmps[p]?.getD undef = .pointer (some ⟨g, 0, none⟩) := by simpa using hp
  have hx' : tmps[u]?.getD undef = x := by simpa using hx
  simp [results, h, hp', hx', asAddr, run_loadVar_row w g t ty cs fr d hg hu hd hi, Result.andThen]

end Go.Proofs.YbulkbdvcDoor.B
