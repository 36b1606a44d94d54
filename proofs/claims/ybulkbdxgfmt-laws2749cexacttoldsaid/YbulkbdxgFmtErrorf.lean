/-
  fmt.Errorf at the two formats of Parse: an error that is not nil.
-/
import Derived.Test.YbulkbdxgFmtFmt
import Derived.Test.YbulkbdxgFmtWith
namespace Go.Proofs.YbulkbdxgFmt.W
open Go.RowKit
open Go.Extern.Stop Go.Stop Go.Extern
open Go.Proofs.YbulkbdxgFmt.P

/-- The stops answer as F says. -/
def Told (F : Interp) (w : World) : Prop := ∀ i name reading k range, w.tape i (.extern (word name reading k) range) = F name reading k

set_option maxRecDepth 100000 in
set_option maxHeartbeats 1000000 in
theorem errorf0 (F : Interp) (s : ByteArray) (n b : Int) (blk : Nat) (w : World) (hF : Told F w) (c0 : w.cell? ⟨blk, 0, none⟩ = some (.iface 9 (.string s))) (c1 : w.cell? ⟨blk, 1, none⟩ = some (.iface 3 (.int .i64 n))) (c2 : w.cell? ⟨blk, 2, none⟩ = some (.iface 3 (.int .i64 b))) :
    Calls Ybaf.prog 9 #[.string ⟨#[105, 100, 32, 37, 113, 32, 105, 115, 32, 110, 111, 116, 32, 37, 100, 32, 98, 97, 115, 101, 45, 37, 100, 32, 100, 105, 103, 105, 116, 115]⟩, .slice (some ⟨blk, 0, none⟩) 3 3] w fun e w' => (∃ N, e = .returned (.iface 51 (.pointer (some ⟨N, 0, none⟩)))) ∧ Below w.heap.size w w' := by
  have hF' : ∀ i name reading k range, w.tape i (.extern (word name reading k) range) = F name reading k := hF
  go_enter Ybaf.func9, Ybaf.ntmps9
  go_wp2
  go_ret
  exact ⟨⟨_, rfl⟩, ((Below.refl _ _).alloc (Nat.le_refl _) _).drew⟩

set_option maxRecDepth 100000 in
set_option maxHeartbeats 1000000 in
theorem errorf1 (F : Interp) (s : ByteArray) (n b : Int) (blk : Nat) (w : World) (hF : Told F w) (c0 : w.cell? ⟨blk, 0, none⟩ = some (.iface 9 (.string s))) (c1 : w.cell? ⟨blk, 1, none⟩ = some (.iface 5 (.int .u8 n))) (c2 : w.cell? ⟨blk, 2, none⟩ = some (.iface 3 (.int .i64 b))) :
    Calls Ybaf.prog 9 #[.string ⟨#[105, 100, 32, 37, 113, 58, 32, 37, 113, 32, 105, 115, 32, 110, 111, 116, 32, 97, 32, 98, 97, 115, 101, 45, 37, 100, 32, 100, 105, 103, 105, 116]⟩, .slice (some ⟨blk, 0, none⟩) 3 3] w fun e w' => (∃ N, e = .returned (.iface 51 (.pointer (some ⟨N, 0, none⟩)))) ∧ Below w.heap.size w w' := by
  have hF' : ∀ i name reading k range, w.tape i (.extern (word name reading k) range) = F name reading k := hF
  go_enter Ybaf.func9, Ybaf.ntmps9
  go_wp2
  go_ret
  exact ⟨⟨_, rfl⟩, ((Below.refl _ _).alloc (Nat.le_refl _) _).drew⟩

theorem Told.below {F : Interp} {n : Nat} {w w' : World} (h : Told F w) (hb : Below n w w') : Told F w' := by
  intro i name reading k range
  rw [hb.tape]
  exact h i name reading k range

theorem Told.alloc {F : Interp} {w : World} (h : Told F w) (o : Obj) : Told F (w.alloc o) := h

theorem top_cell (w : World) (cs : Array Value) (t : TypeId) (i : Nat) : (w.alloc (.cells cs t)).cell? ⟨w.heap.size, i, none⟩ = cs[i]? := row_cell (heap_top _ _ _ rfl)

theorem errorf0_s (F : Interp) (s : ByteArray) (n b : Int) (u : World) (hF : Told F u) :
    Calls Ybaf.prog 9 #[.string ⟨#[105, 100, 32, 37, 113, 32, 105, 115, 32, 110, 111, 116, 32, 37, 100, 32, 98, 97, 115, 101, 45, 37, 100, 32, 100, 105, 103, 105, 116, 115]⟩, .slice (some ⟨u.heap.size, 0, none⟩) 3 3] (u.alloc (.cells #[.iface 9 (.string s), .iface 3 (.int .i64 n), .iface 3 (.int .i64 b)] 20)) fun e w' => (∃ N, e = .returned (.iface 51 (.pointer (some ⟨N, 0, none⟩)))) ∧ Below u.heap.size u w' := by
  have k := top_cell u #[.iface 9 (.string s), .iface 3 (.int .i64 n), .iface 3 (.int .i64 b)] 20
  have hb : Below u.heap.size u (u.alloc (.cells #[.iface 9 (.string s), .iface 3 (.int .i64 n), .iface 3 (.int .i64 b)] 20)) := (Below.refl _ _).alloc (Nat.le_refl _) _
  refine (errorf0 F s n b u.heap.size _ (hF.alloc _) (k 0) (k 1) (k 2)).mono ?_
  rintro e w' ⟨h1, h2⟩
  exact ⟨h1, hb.trans (h2.mono hb.size)⟩

theorem errorf1_s (F : Interp) (s : ByteArray) (n b : Int) (u : World) (hF : Told F u) :
    Calls Ybaf.prog 9 #[.string ⟨#[105, 100, 32, 37, 113, 58, 32, 37, 113, 32, 105, 115, 32, 110, 111, 116, 32, 97, 32, 98, 97, 115, 101, 45, 37, 100, 32, 100, 105, 103, 105, 116]⟩, .slice (some ⟨u.heap.size, 0, none⟩) 3 3] (u.alloc (.cells #[.iface 9 (.string s), .iface 5 (.int .u8 n), .iface 3 (.int .i64 b)] 20)) fun e w' => (∃ N, e = .returned (.iface 51 (.pointer (some ⟨N, 0, none⟩)))) ∧ Below u.heap.size u w' := by
  have k := top_cell u #[.iface 9 (.string s), .iface 5 (.int .u8 n), .iface 3 (.int .i64 b)] 20
  have hb : Below u.heap.size u (u.alloc (.cells #[.iface 9 (.string s), .iface 5 (.int .u8 n), .iface 3 (.int .i64 b)] 20)) := (Below.refl _ _).alloc (Nat.le_refl _) _
  refine (errorf1 F s n b u.heap.size _ (hF.alloc _) (k 0) (k 1) (k 2)).mono ?_
  rintro e w' ⟨h1, h2⟩
  exact ⟨h1, hb.trans (h2.mono hb.size)⟩
end Go.Proofs.YbulkbdxgFmt.W
