/-
  strconv's syntax error: Clone, syntaxError, toError.
-/
import Derived.Test.YbulkbdxgFmtWith
import Derived.Lib.BufferWrite
import Derived.Lib.UnsafeStr
import Derived.Lib.IfaceEq
import Derived.Laws.MakeOwn
import Derived.Deep.OwnRows
import Derived.Lib.Hide
namespace Go.Proofs.YbulkbdxgFmt.W
open Go.RowKit
open Go.Proofs.YbulkbdxgFmt.P

theorem info5b : (Ybaf.prog.info? 5).map (fun i => (i.zero, i.size, i.bytes)) = some (some (.int .u8 0), 1, 1) := by kernel_rfl
theorem info5s : (Ybaf.prog.info? 5).map (·.size) = some 1 := by kernel_rfl
theorem cells5 : Ybaf.prog.cellsOf 5 = 1 := by kernel_rfl

set_option maxHeartbeats 4000000 in
set_option maxRecDepth 100000 in
/-- stringslite.Clone at a text that is not empty (after the kit's Any.stringslite_Clone). -/
theorem clone_any (s : ByteArray) (h0 : 0 < s.size) (hlim : s.size ≤ 4096) (w : World) :
    Calls Ybaf.prog 25 #[.string s] w fun e w' => e = .returned (.string s) ∧ Below w.heap.size w w' := by
  obtain ⟨M, hM⟩ : ∃ M, M = madeCells #[.int .u8 0] s.size := ⟨_, rfl⟩
  have hMs : M.size = s.size := by rw [hM, size_madeCells]
  have hmk : ∀ wx, Sem.run Ybaf.prog (Instr.makeSlice 38 (.int .i64 s.size) (.int .i64 s.size)) wx = .ok (.slice (some ⟨wx.heap.size, 0, none⟩) s.size s.size) (wx.alloc (.cells M 5)) := by
    intro wx
    rw [hM]
    exact run_make_row' 38 5 _ 1 Ybaf.underlying38 info5b rfl .i64 .i64 s.size (by omega) (by omega) wx
  clear hM
  have hcp := Lib.run_copy_row_string (P := Ybaf.prog) (w.alloc (.cells M 5)) 38 9 3 5 w.heap.size 0 s.size s.size s M 5 Ybaf.underlying38 info5s (heap_alloc_new w _) (Nat.le_refl _) (by omega)
  obtain ⟨Y, hY⟩ : ∃ Y, Y = (M.toList.take 0 ++ Lib.byteCells s.data.toList ++ M.toList.drop (0 + s.size)).toArray := ⟨_, rfl⟩
  rw [← hY] at hcp
  have hYl : Y.toList = Lib.byteCells s.data.toList := by
    rw [hY, List.toList_toArray, List.take_zero, List.nil_append, List.drop_of_length_le (by rw [Array.length_toList]; omega), List.append_nil]
  have hYs : Y.size = s.size := by rw [← Array.length_toList, hYl, Lib.byteCells_length, ← Lib.size_eq]
  have hgY : ((w.alloc (.cells M 5)).setRow w.heap.size Y).heap[w.heap.size]? = some (.cells Y 5 (0, 0)) := setRow_heap _ _ M _ 5 (0, 0) (heap_alloc_new w _)
  have hne : s.data.toList ≠ [] := fun e => by
    have : s.size = 0 := by rw [Lib.size_eq, e]; rfl
    omega
  have hUS := Lib.run_unsafeString_row (P := Ybaf.prog) ((w.alloc (.cells M 5)).setRow w.heap.size Y) 65 3 9 5 Ybaf.underlying65 cells5 w.heap.size Y.size (by unfold World.shape?; rw [hgY]) s.data.toList hne (by rw [← Lib.size_eq]; omega) (by rw [← Lib.size_eq]; omega)
    (fun j x hx => Lib.cells_of_row hgY Y.size j _ (by rw [List.take_of_length_le (by rw [Array.length_toList]; exact Nat.le_refl _), hYl]; simp [Lib.byteCells, hx]))
  rw [← Lib.size_eq] at hUS
  clear hY
  go_enter Ybaf.func25, Ybaf.ntmps25
  go_wp2
  go_ret
  have hb1 : Below w.heap.size w (w.alloc (.cells M 5)) := (Below.refl _ w).alloc (Nat.le_refl _) _
  have hb2 : Below w.heap.size (w.alloc (.cells M 5)) ((w.alloc (.cells M 5)).setRow w.heap.size Y) := ⟨rfl, rfl, rfl, by simp, fun k hk => setRow_other _ _ _ _ (by omega)⟩
  exact ⟨rfl, Lib.below_freeze (hb1.trans hb2) (p := ⟨w.heap.size, 0, none⟩) (Nat.le_refl _) _⟩

theorem keep0 {w : World} {v : Value} (h : w.cell? ⟨0, 0, none⟩ = some v) (o : Obj) : (w.alloc o).cell? ⟨0, 0, none⟩ = some v :=
  (((Below.refl w.heap.size w).alloc (Nat.le_refl _) o).cell (p := ⟨0, 0, none⟩) (World.block_lt_of_cell? _ _ h)).trans h

set_option maxHeartbeats 4000000 in
set_option maxRecDepth 100000 in
theorem syntax_any (fn s : ByteArray) (h0 : 0 < s.size) (hlim : s.size ≤ 4096) (te : TypeId) (pe : Value) (w : World) (hv : w.cell? ⟨0, 0, none⟩ = some (.iface te pe)) :
    Calls Ybaf.prog 21 #[.string fn, .string s] w fun e w' => (∃ N, e = .returned (.pointer (some ⟨N, 0, none⟩))) ∧ Below w.heap.size w w' := by
  have hG : 0 < w.heap.size := World.block_lt_of_cell? _ _ hv
  go_enter Ybaf.func21, Ybaf.ntmps21
  go_wp2_with fail
  go_region_held3 (fun w' => w'.cell? ⟨0, 0, none⟩ = some (.iface te pe)) ((first | exact hv | exact hv2 | exact keep0 hv _ | exact keep0 hv2 _)) 
    ((go_at_call 25; refine (clone_any s h0 hlim _).mono ?_; rintro e u ⟨rfl, hu⟩
      have hv2 : u.cell? ⟨0, 0, none⟩ = some (.iface te pe) := (hu.cell (p := ⟨0, 0, none⟩) hG).trans hv))
  have HB := hide hu
  clear hu
  go_wp2
  go_ret
  exact ⟨⟨_, rfl⟩, (((Below.refl _ _).drew).trans HB.out).alloc HB.out.size _⟩

set_option maxHeartbeats 4000000 in
set_option maxRecDepth 100000 in
theorem toError_any (fn s : ByteArray) (h0 : 0 < s.size) (hlim : s.size ≤ 4096) (b k : Int) (te : TypeId) (pe : Value) (w : World) (hv : w.cell? ⟨0, 0, none⟩ = some (.iface te pe)) :
    Calls Ybaf.prog 16 #[.string fn, .string s, .int .i64 b, .int .i64 k, .iface 54 (.int .i64 2)] w fun e w' => (∃ N, e = .returned (.iface 57 (.pointer (some ⟨N, 0, none⟩)))) ∧ Below w.heap.size w w' := by
  have HV := hide hv
  clear hv
  have heq : ∀ W, (binOp .eql 30 (.iface 54 (.int .i64 2)) (.iface 54 (.int .i64 2))).run Ybaf.prog W = .ok (.bool true) W := fun W => Lib.run_eql_iface_int W 2 2 Ybaf.underlying30 (by kernel_rfl) Ybaf.underlying54
  go_enter Ybaf.func16, Ybaf.ntmps16
  go_wp2_with fail
  refine (syntax_any fn s h0 hlim te pe _ HV.out).mono ?_
  rintro e u ⟨⟨N, rfl⟩, hu⟩
  have HB := hide hu
  clear hu
  go_wp2
  go_ret
  exact ⟨⟨_, rfl⟩, HB.out⟩
end Go.Proofs.YbulkbdxgFmt.W
