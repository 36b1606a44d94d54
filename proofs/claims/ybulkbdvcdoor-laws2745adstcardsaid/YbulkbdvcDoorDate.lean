import Derived.Test.YbulkbdvcDoorRule
import Derived.Test.YbulkbdvcDoorMem
namespace Go.Proofs.YbulkbdvcDoor.W
open Go.RowKit
set_option linter.unusedVariables false
open Go.Proofs.YbulkbdvcDoor.P Go.Proofs.YbulkbdvcDoor.B

theorem push2 (W : World) (A B : Obj) (b : Nat) (v : Value) (hb : b < W.heap.size) : ((W.alloc A).alloc B).setCell ⟨b, 0, none⟩ v = ((W.setCell ⟨b, 0, none⟩ v).alloc A).alloc B := by
  rw [World.setCell_alloc_past _ _ _ _ (by first | omega | (simp; omega)), World.setCell_alloc_past _ _ _ _ hb]

theorem noC_cons {c : UInt8} (d : UInt8) (l : List UInt8) (h : d ≠ c) : NoC c (d :: l) := by intro e he; simp at he; subst he; exact h

/-- A date's cells: the form, the day, the week, the month, the time. -/
def dateCells (form : List UInt8) (day week month time : Int) : Array Value := #[.string (strB form), .int .i64 day, .int .i64 week, .int .i64 month, .int .i64 time]

set_option maxRecDepth 100000 in
set_option maxHeartbeats 1000000 in
theorem date_J0 (b : Nat) (X : List UInt8) (x : Nat) (hX : Num X x) (hx1 : 1 ≤ x) (hx2 : x ≤ 365) (rest : List UInt8) (hd : NoDig rest) (hc : NoC 58 rest) (hs : NoC 47 rest) (w : World) (hb : b < w.heap.size) (at0 : At w b (74 :: (X ++ rest))) :
    Calls Ybad.prog 13 #[.pointer (some ⟨b, 0, none⟩)] w fun e w' => e = .returned (.agg (dateCells [74] x 0 0 7200)) ∧ w' = ((w.setCell ⟨b, 0, none⟩ (.string (strB rest))).alloc (.cells (dateCells [74] x 0 0 7200) 34)).alloc (.cells (dateCells [74] x 0 0 7200) 34) := by
  have hb1 : b < w.heap.size + 1 := by omega
  go_enter Ybad.func13, Ybad.ntmps13
  go_wp2_with fail
  refine (skip_hit b 74 _ 74 rfl _ ((at0.alloc _ (by first | omega | (simp; omega))).alloc _ (by first | omega | (simp; omega)))).mono ?_
  rintro e w' ⟨rfl, rfl⟩
  rw [push2 _ _ _ _ _ (by first | omega | (simp; omega))]
  have at1 := at0.cut1
  go_wp2_with fail
  refine (number_ok b X _ _ 1 365 hX (by omega) (by omega) (by omega) hd _ ((at1.alloc _ (by first | omega | (simp; omega))).alloc _ (by first | omega | (simp; omega)))).mono ?_
  rintro e w' ⟨rfl, rfl⟩
  rw [push2 _ _ _ _ _ (by first | omega | (simp; omega))]
  have at2 := at1.cut
  rw [setCell_twice] at at2 ⊢
  go_wp2_with fail
  refine (skip_miss b 47 _ hs 47 rfl _ ((at2.alloc _ (by first | omega | (simp; omega))).alloc _ (by first | omega | (simp; omega)))).mono ?_
  rintro e w' ⟨rfl, hw⟩
  subst hw
  go_wp2_with (first | (refine wpList_load_row rfl 34 (.tmp 3) rfl _ rfl 34 _ (0, 0) _ (heap_top _ _ _ (by simp)) Ybad.underlying34 rfl info34 ?_) | (refine wpList_store_row rfl 34 (.tmp 2) _ rfl _ _ rfl rfl 34 _ ((heap_past _ _ _ (by simp)).trans (heap_top _ _ _ (by simp))) info34 rfl (all_one rfl) ?_; rw [setRow_past _ _ _ _ (by simp), setRow_top _ _ _ _ _ (by simp)]))
  exact bodyPost_ret (results_cell_row rfl _ _ _ 34 _ (0, 0) _ rfl ((heap_past _ _ _ (by simp)).trans (heap_top _ _ _ (by simp))) Ybad.underlying34 rfl info34) rfl ⟨rfl, rfl⟩

set_option maxRecDepth 100000 in
set_option maxHeartbeats 1000000 in
theorem date_J1 (b : Nat) (X : List UInt8) (x : Nat) (hX : Num X x) (hx1 : 1 ≤ x) (hx2 : x ≤ 365) (O : List UInt8) (v : Int) (hO : Off O v) (rest : List UInt8) (hd : NoDig rest) (hc : NoC 58 rest) (hs : NoC 47 rest) (w : World) (hb : b < w.heap.size) (at0 : At w b (74 :: (X ++ (47 :: (O ++ rest))))) :
    Calls Ybad.prog 13 #[.pointer (some ⟨b, 0, none⟩)] w fun e w' => e = .returned (.agg (dateCells [74] x 0 0 v)) ∧ w' = ((w.setCell ⟨b, 0, none⟩ (.string (strB rest))).alloc (.cells (dateCells [74] x 0 0 v) 34)).alloc (.cells (dateCells [74] x 0 0 v) 34) := by
  have hb1 : b < w.heap.size + 1 := by omega
  go_enter Ybad.func13, Ybad.ntmps13
  go_wp2_with fail
  refine (skip_hit b 74 _ 74 rfl _ ((at0.alloc _ (by first | omega | (simp; omega))).alloc _ (by first | omega | (simp; omega)))).mono ?_
  rintro e w' ⟨rfl, rfl⟩
  rw [push2 _ _ _ _ _ (by first | omega | (simp; omega))]
  have at1 := at0.cut1
  go_wp2_with fail
  refine (number_ok b X _ _ 1 365 hX (by omega) (by omega) (by omega) (noDig_cons 47 _ rfl) _ ((at1.alloc _ (by first | omega | (simp; omega))).alloc _ (by first | omega | (simp; omega)))).mono ?_
  rintro e w' ⟨rfl, rfl⟩
  rw [push2 _ _ _ _ _ (by first | omega | (simp; omega))]
  have at2 := at1.cut
  rw [setCell_twice] at at2 ⊢
  go_wp2_with fail
  refine (skip_hit b 47 _ 47 rfl _ ((at2.alloc _ (by first | omega | (simp; omega))).alloc _ (by first | omega | (simp; omega)))).mono ?_
  rintro e w' ⟨rfl, rfl⟩
  rw [push2 _ _ _ _ _ (by first | omega | (simp; omega))]
  have at7 := at2.cut1
  rw [setCell_twice] at at7 ⊢
  go_wp2_with fail
  refine (offset_ok b O _ v hO hd hc _ ((at7.alloc _ (by first | omega | (simp; omega))).alloc _ (by first | omega | (simp; omega)))).mono ?_
  rintro e w' ⟨rfl, rfl⟩
  rw [push2 _ _ _ _ _ (by first | omega | (simp; omega))]
  have at8 := at7.cut
  rw [setCell_twice] at at8 ⊢
  go_wp2_with (first | (refine wpList_load_row rfl 34 (.tmp 3) rfl _ rfl 34 _ (0, 0) _ (heap_top _ _ _ (by simp)) Ybad.underlying34 rfl info34 ?_) | (refine wpList_store_row rfl 34 (.tmp 2) _ rfl _ _ rfl rfl 34 _ ((heap_past _ _ _ (by simp)).trans (heap_top _ _ _ (by simp))) info34 rfl (all_one rfl) ?_; rw [setRow_past _ _ _ _ (by simp), setRow_top _ _ _ _ _ (by simp)]))
  exact bodyPost_ret (results_cell_row rfl _ _ _ 34 _ (0, 0) _ rfl ((heap_past _ _ _ (by simp)).trans (heap_top _ _ _ (by simp))) Ybad.underlying34 rfl info34) rfl ⟨rfl, rfl⟩

set_option maxRecDepth 100000 in
set_option maxHeartbeats 1000000 in
theorem date_M0 (b : Nat) (X Y Z : List UInt8) (x y z : Nat) (hX : Num X x) (hx1 : 1 ≤ x) (hx2 : x ≤ 12) (hY : Num Y y) (hy1 : 1 ≤ y) (hy2 : y ≤ 5) (hZ : Num Z z) (hz2 : z ≤ 6) (rest : List UInt8) (hd : NoDig rest) (hc : NoC 58 rest) (hs : NoC 47 rest) (w : World) (hb : b < w.heap.size) (at0 : At w b (77 :: (X ++ 46 :: (Y ++ 46 :: (Z ++ rest))))) :
    Calls Ybad.prog 13 #[.pointer (some ⟨b, 0, none⟩)] w fun e w' => e = .returned (.agg (dateCells [77] z y x 7200)) ∧ w' = ((w.setCell ⟨b, 0, none⟩ (.string (strB rest))).alloc (.cells (dateCells [77] z y x 7200) 34)).alloc (.cells (dateCells [77] z y x 7200) 34) := by
  have hb1 : b < w.heap.size + 1 := by omega
  go_enter Ybad.func13, Ybad.ntmps13
  go_wp2_with fail
  refine (skip_miss b 74 _ (noC_cons 77 _ (by decide)) 74 rfl _ ((at0.alloc _ (by first | omega | (simp; omega))).alloc _ (by first | omega | (simp; omega)))).mono ?_
  rintro e w' ⟨rfl, hw⟩
  subst hw
  go_wp2_with fail
  refine (skip_hit b 77 _ 77 rfl _ ((at0.alloc _ (by first | omega | (simp; omega))).alloc _ (by first | omega | (simp; omega)))).mono ?_
  rintro e w' ⟨rfl, rfl⟩
  rw [push2 _ _ _ _ _ (by first | omega | (simp; omega))]
  have at1 := at0.cut1
  go_wp2_with fail
  refine (number_ok b X _ _ 1 12 hX (by omega) (by omega) (by omega) (noDig_cons 46 _ rfl) _ ((at1.alloc _ (by first | omega | (simp; omega))).alloc _ (by first | omega | (simp; omega)))).mono ?_
  rintro e w' ⟨rfl, rfl⟩
  rw [push2 _ _ _ _ _ (by first | omega | (simp; omega))]
  have at2 := at1.cut
  rw [setCell_twice] at at2 ⊢
  go_wp2_with fail
  refine (expect_hit b 46 _ 46 rfl _ ((at2.alloc _ (by first | omega | (simp; omega))).alloc _ (by first | omega | (simp; omega)))).mono ?_
  rintro e w' ⟨rfl, rfl⟩
  rw [push2 _ _ _ _ _ (by first | omega | (simp; omega))]
  have at3 := at2.cut1
  rw [setCell_twice] at at3 ⊢
  go_wp2_with fail
  refine (number_ok b Y _ _ 1 5 hY (by omega) (by omega) (by omega) (noDig_cons 46 _ rfl) _ ((at3.alloc _ (by first | omega | (simp; omega))).alloc _ (by first | omega | (simp; omega)))).mono ?_
  rintro e w' ⟨rfl, rfl⟩
  rw [push2 _ _ _ _ _ (by first | omega | (simp; omega))]
  have at4 := at3.cut
  rw [setCell_twice] at at4 ⊢
  go_wp2_with fail
  refine (expect_hit b 46 _ 46 rfl _ ((at4.alloc _ (by first | omega | (simp; omega))).alloc _ (by first | omega | (simp; omega)))).mono ?_
  rintro e w' ⟨rfl, rfl⟩
  rw [push2 _ _ _ _ _ (by first | omega | (simp; omega))]
  have at5 := at4.cut1
  rw [setCell_twice] at at5 ⊢
  go_wp2_with fail
  refine (number_ok b Z _ _ 0 6 hZ (by omega) (by omega) (by omega) hd _ ((at5.alloc _ (by first | omega | (simp; omega))).alloc _ (by first | omega | (simp; omega)))).mono ?_
  rintro e w' ⟨rfl, rfl⟩
  rw [push2 _ _ _ _ _ (by first | omega | (simp; omega))]
  have at6 := at5.cut
  rw [setCell_twice] at at6 ⊢
  go_wp2_with fail
  refine (skip_miss b 47 _ hs 47 rfl _ ((at6.alloc _ (by first | omega | (simp; omega))).alloc _ (by first | omega | (simp; omega)))).mono ?_
  rintro e w' ⟨rfl, hw⟩
  subst hw
  go_wp2_with (first | (refine wpList_load_row rfl 34 (.tmp 3) rfl _ rfl 34 _ (0, 0) _ (heap_top _ _ _ (by simp)) Ybad.underlying34 rfl info34 ?_) | (refine wpList_store_row rfl 34 (.tmp 2) _ rfl _ _ rfl rfl 34 _ ((heap_past _ _ _ (by simp)).trans (heap_top _ _ _ (by simp))) info34 rfl (all_one rfl) ?_; rw [setRow_past _ _ _ _ (by simp), setRow_top _ _ _ _ _ (by simp)]))
  exact bodyPost_ret (results_cell_row rfl _ _ _ 34 _ (0, 0) _ rfl ((heap_past _ _ _ (by simp)).trans (heap_top _ _ _ (by simp))) Ybad.underlying34 rfl info34) rfl ⟨rfl, rfl⟩

set_option maxRecDepth 100000 in
set_option maxHeartbeats 1000000 in
theorem date_M1 (b : Nat) (X Y Z : List UInt8) (x y z : Nat) (hX : Num X x) (hx1 : 1 ≤ x) (hx2 : x ≤ 12) (hY : Num Y y) (hy1 : 1 ≤ y) (hy2 : y ≤ 5) (hZ : Num Z z) (hz2 : z ≤ 6) (O : List UInt8) (v : Int) (hO : Off O v) (rest : List UInt8) (hd : NoDig rest) (hc : NoC 58 rest) (hs : NoC 47 rest) (w : World) (hb : b < w.heap.size) (at0 : At w b (77 :: (X ++ 46 :: (Y ++ 46 :: (Z ++ (47 :: (O ++ rest))))))) :
    Calls Ybad.prog 13 #[.pointer (some ⟨b, 0, none⟩)] w fun e w' => e = .returned (.agg (dateCells [77] z y x v)) ∧ w' = ((w.setCell ⟨b, 0, none⟩ (.string (strB rest))).alloc (.cells (dateCells [77] z y x v) 34)).alloc (.cells (dateCells [77] z y x v) 34) := by
  have hb1 : b < w.heap.size + 1 := by omega
  go_enter Ybad.func13, Ybad.ntmps13
  go_wp2_with fail
  refine (skip_miss b 74 _ (noC_cons 77 _ (by decide)) 74 rfl _ ((at0.alloc _ (by first | omega | (simp; omega))).alloc _ (by first | omega | (simp; omega)))).mono ?_
  rintro e w' ⟨rfl, hw⟩
  subst hw
  go_wp2_with fail
  refine (skip_hit b 77 _ 77 rfl _ ((at0.alloc _ (by first | omega | (simp; omega))).alloc _ (by first | omega | (simp; omega)))).mono ?_
  rintro e w' ⟨rfl, rfl⟩
  rw [push2 _ _ _ _ _ (by first | omega | (simp; omega))]
  have at1 := at0.cut1
  go_wp2_with fail
  refine (number_ok b X _ _ 1 12 hX (by omega) (by omega) (by omega) (noDig_cons 46 _ rfl) _ ((at1.alloc _ (by first | omega | (simp; omega))).alloc _ (by first | omega | (simp; omega)))).mono ?_
  rintro e w' ⟨rfl, rfl⟩
  rw [push2 _ _ _ _ _ (by first | omega | (simp; omega))]
  have at2 := at1.cut
  rw [setCell_twice] at at2 ⊢
  go_wp2_with fail
  refine (expect_hit b 46 _ 46 rfl _ ((at2.alloc _ (by first | omega | (simp; omega))).alloc _ (by first | omega | (simp; omega)))).mono ?_
  rintro e w' ⟨rfl, rfl⟩
  rw [push2 _ _ _ _ _ (by first | omega | (simp; omega))]
  have at3 := at2.cut1
  rw [setCell_twice] at at3 ⊢
  go_wp2_with fail
  refine (number_ok b Y _ _ 1 5 hY (by omega) (by omega) (by omega) (noDig_cons 46 _ rfl) _ ((at3.alloc _ (by first | omega | (simp; omega))).alloc _ (by first | omega | (simp; omega)))).mono ?_
  rintro e w' ⟨rfl, rfl⟩
  rw [push2 _ _ _ _ _ (by first | omega | (simp; omega))]
  have at4 := at3.cut
  rw [setCell_twice] at at4 ⊢
  go_wp2_with fail
  refine (expect_hit b 46 _ 46 rfl _ ((at4.alloc _ (by first | omega | (simp; omega))).alloc _ (by first | omega | (simp; omega)))).mono ?_
  rintro e w' ⟨rfl, rfl⟩
  rw [push2 _ _ _ _ _ (by first | omega | (simp; omega))]
  have at5 := at4.cut1
  rw [setCell_twice] at at5 ⊢
  go_wp2_with fail
  refine (number_ok b Z _ _ 0 6 hZ (by omega) (by omega) (by omega) (noDig_cons 47 _ rfl) _ ((at5.alloc _ (by first | omega | (simp; omega))).alloc _ (by first | omega | (simp; omega)))).mono ?_
  rintro e w' ⟨rfl, rfl⟩
  rw [push2 _ _ _ _ _ (by first | omega | (simp; omega))]
  have at6 := at5.cut
  rw [setCell_twice] at at6 ⊢
  go_wp2_with fail
  refine (skip_hit b 47 _ 47 rfl _ ((at6.alloc _ (by first | omega | (simp; omega))).alloc _ (by first | omega | (simp; omega)))).mono ?_
  rintro e w' ⟨rfl, rfl⟩
  rw [push2 _ _ _ _ _ (by first | omega | (simp; omega))]
  have at7 := at6.cut1
  rw [setCell_twice] at at7 ⊢
  go_wp2_with fail
  refine (offset_ok b O _ v hO hd hc _ ((at7.alloc _ (by first | omega | (simp; omega))).alloc _ (by first | omega | (simp; omega)))).mono ?_
  rintro e w' ⟨rfl, rfl⟩
  rw [push2 _ _ _ _ _ (by first | omega | (simp; omega))]
  have at8 := at7.cut
  rw [setCell_twice] at at8 ⊢
  go_wp2_with (first | (refine wpList_load_row rfl 34 (.tmp 3) rfl _ rfl 34 _ (0, 0) _ (heap_top _ _ _ (by simp)) Ybad.underlying34 rfl info34 ?_) | (refine wpList_store_row rfl 34 (.tmp 2) _ rfl _ _ rfl rfl 34 _ ((heap_past _ _ _ (by simp)).trans (heap_top _ _ _ (by simp))) info34 rfl (all_one rfl) ?_; rw [setRow_past _ _ _ _ (by simp), setRow_top _ _ _ _ _ (by simp)]))
  exact bodyPost_ret (results_cell_row rfl _ _ _ 34 _ (0, 0) _ rfl ((heap_past _ _ _ (by simp)).trans (heap_top _ _ _ (by simp))) Ybad.underlying34 rfl info34) rfl ⟨rfl, rfl⟩

set_option maxRecDepth 100000 in
set_option maxHeartbeats 1000000 in
theorem date_N0 (b : Nat) (X : List UInt8) (x : Nat) (hX : Num X x) (hx2 : x ≤ 365) (rest : List UInt8) (hd : NoDig rest) (hc : NoC 58 rest) (hs : NoC 47 rest) (w : World) (hb : b < w.heap.size) (at0 : At w b (X ++ rest)) :
    Calls Ybad.prog 13 #[.pointer (some ⟨b, 0, none⟩)] w fun e w' => e = .returned (.agg (dateCells [] x 0 0 7200)) ∧ w' = ((w.setCell ⟨b, 0, none⟩ (.string (strB rest))).alloc (.cells (dateCells [] x 0 0 7200) 34)).alloc (.cells (dateCells [] x 0 0 7200) 34) := by
  have hb1 : b < w.heap.size + 1 := by omega
  go_enter Ybad.func13, Ybad.ntmps13
  go_wp2_with fail
  refine (skip_miss b 74 _ (hX.noC 74 rfl) 74 rfl _ ((at0.alloc _ (by first | omega | (simp; omega))).alloc _ (by first | omega | (simp; omega)))).mono ?_
  rintro e w' ⟨rfl, hw⟩
  subst hw
  go_wp2_with fail
  refine (skip_miss b 77 _ (hX.noC 77 rfl) 77 rfl _ ((at0.alloc _ (by first | omega | (simp; omega))).alloc _ (by first | omega | (simp; omega)))).mono ?_
  rintro e w' ⟨rfl, hw⟩
  subst hw
  go_wp2_with fail
  refine (number_ok b X _ _ 0 365 hX (by omega) (by omega) (by omega) hd _ ((at0.alloc _ (by first | omega | (simp; omega))).alloc _ (by first | omega | (simp; omega)))).mono ?_
  rintro e w' ⟨rfl, rfl⟩
  rw [push2 _ _ _ _ _ (by first | omega | (simp; omega))]
  have at2 := at0.cut
  go_wp2_with fail
  refine (skip_miss b 47 _ hs 47 rfl _ ((at2.alloc _ (by first | omega | (simp; omega))).alloc _ (by first | omega | (simp; omega)))).mono ?_
  rintro e w' ⟨rfl, hw⟩
  subst hw
  go_wp2_with (first | (refine wpList_load_row rfl 34 (.tmp 3) rfl _ rfl 34 _ (0, 0) _ (heap_top _ _ _ (by simp)) Ybad.underlying34 rfl info34 ?_) | (refine wpList_store_row rfl 34 (.tmp 2) _ rfl _ _ rfl rfl 34 _ ((heap_past _ _ _ (by simp)).trans (heap_top _ _ _ (by simp))) info34 rfl (all_one rfl) ?_; rw [setRow_past _ _ _ _ (by simp), setRow_top _ _ _ _ _ (by simp)]))
  exact bodyPost_ret (results_cell_row rfl _ _ _ 34 _ (0, 0) _ rfl ((heap_past _ _ _ (by simp)).trans (heap_top _ _ _ (by simp))) Ybad.underlying34 rfl info34) rfl ⟨rfl, rfl⟩

set_option maxRecDepth 100000 in
set_option maxHeartbeats 1000000 in
theorem date_N1 (b : Nat) (X : List UInt8) (x : Nat) (hX : Num X x) (hx2 : x ≤ 365) (O : List UInt8) (v : Int) (hO : Off O v) (rest : List UInt8) (hd : NoDig rest) (hc : NoC 58 rest) (hs : NoC 47 rest) (w : World) (hb : b < w.heap.size) (at0 : At w b (X ++ (47 :: (O ++ rest)))) :
    Calls Ybad.prog 13 #[.pointer (some ⟨b, 0, none⟩)] w fun e w' => e = .returned (.agg (dateCells [] x 0 0 v)) ∧ w' = ((w.setCell ⟨b, 0, none⟩ (.string (strB rest))).alloc (.cells (dateCells [] x 0 0 v) 34)).alloc (.cells (dateCells [] x 0 0 v) 34) := by
  have hb1 : b < w.heap.size + 1 := by omega
  go_enter Ybad.func13, Ybad.ntmps13
  go_wp2_with fail
  refine (skip_miss b 74 _ (hX.noC 74 rfl) 74 rfl _ ((at0.alloc _ (by first | omega | (simp; omega))).alloc _ (by first | omega | (simp; omega)))).mono ?_
  rintro e w' ⟨rfl, hw⟩
  subst hw
  go_wp2_with fail
  refine (skip_miss b 77 _ (hX.noC 77 rfl) 77 rfl _ ((at0.alloc _ (by first | omega | (simp; omega))).alloc _ (by first | omega | (simp; omega)))).mono ?_
  rintro e w' ⟨rfl, hw⟩
  subst hw
  go_wp2_with fail
  refine (number_ok b X _ _ 0 365 hX (by omega) (by omega) (by omega) (noDig_cons 47 _ rfl) _ ((at0.alloc _ (by first | omega | (simp; omega))).alloc _ (by first | omega | (simp; omega)))).mono ?_
  rintro e w' ⟨rfl, rfl⟩
  rw [push2 _ _ _ _ _ (by first | omega | (simp; omega))]
  have at2 := at0.cut
  go_wp2_with fail
  refine (skip_hit b 47 _ 47 rfl _ ((at2.alloc _ (by first | omega | (simp; omega))).alloc _ (by first | omega | (simp; omega)))).mono ?_
  rintro e w' ⟨rfl, rfl⟩
  rw [push2 _ _ _ _ _ (by first | omega | (simp; omega))]
  have at7 := at2.cut1
  rw [setCell_twice] at at7 ⊢
  go_wp2_with fail
  refine (offset_ok b O _ v hO hd hc _ ((at7.alloc _ (by first | omega | (simp; omega))).alloc _ (by first | omega | (simp; omega)))).mono ?_
  rintro e w' ⟨rfl, rfl⟩
  rw [push2 _ _ _ _ _ (by first | omega | (simp; omega))]
  have at8 := at7.cut
  rw [setCell_twice] at at8 ⊢
  go_wp2_with (first | (refine wpList_load_row rfl 34 (.tmp 3) rfl _ rfl 34 _ (0, 0) _ (heap_top _ _ _ (by simp)) Ybad.underlying34 rfl info34 ?_) | (refine wpList_store_row rfl 34 (.tmp 2) _ rfl _ _ rfl rfl 34 _ ((heap_past _ _ _ (by simp)).trans (heap_top _ _ _ (by simp))) info34 rfl (all_one rfl) ?_; rw [setRow_past _ _ _ _ (by simp), setRow_top _ _ _ _ _ (by simp)]))
  exact bodyPost_ret (results_cell_row rfl _ _ _ 34 _ (0, 0) _ rfl ((heap_past _ _ _ (by simp)).trans (heap_top _ _ _ (by simp))) Ybad.underlying34 rfl info34) rfl ⟨rfl, rfl⟩

/-- l writes the day of a date. -/
def DateBody (l form : List UInt8) (day week month : Int) : Prop :=
  (∃ X x, l = 74 :: X ∧ Num X x ∧ 1 ≤ x ∧ x ≤ 365 ∧ form = [74] ∧ day = (x : Int) ∧ week = 0 ∧ month = 0) ∨
  (∃ X Y Z x y z, l = 77 :: (X ++ 46 :: (Y ++ 46 :: Z)) ∧ Num X x ∧ 1 ≤ x ∧ x ≤ 12 ∧ Num Y y ∧ 1 ≤ y ∧ y ≤ 5 ∧ Num Z z ∧ z ≤ 6 ∧ form = [77] ∧ day = (z : Int) ∧ week = (y : Int) ∧ month = (x : Int)) ∨
  (∃ X x, l = X ∧ Num X x ∧ x ≤ 365 ∧ form = [] ∧ day = (x : Int) ∧ week = 0 ∧ month = 0)

/-- l writes a date, with its time behind a slash or without. -/
def DateT (l form : List UInt8) (day week month time : Int) : Prop :=
  ∃ l0, DateBody l0 form day week month ∧ ((l = l0 ∧ time = 7200) ∨ ∃ O v, l = l0 ++ 47 :: O ∧ Off O v ∧ time = v)

/-- 'date'. -/
theorem date_ok (b : Nat) (l form : List UInt8) (day week month time : Int) (hl : DateT l form day week month time) (rest : List UInt8) (hd : NoDig rest) (hc : NoC 58 rest) (hs : NoC 47 rest) (w : World) (hb : b < w.heap.size) (at0 : At w b (l ++ rest)) :
    Calls Ybad.prog 13 #[.pointer (some ⟨b, 0, none⟩)] w fun e w' => e = .returned (.agg (dateCells form day week month time)) ∧ w' = ((w.setCell ⟨b, 0, none⟩ (.string (strB rest))).alloc (.cells (dateCells form day week month time) 34)).alloc (.cells (dateCells form day week month time) 34) := by
  obtain ⟨l0, hb0, ht⟩ := hl
  rcases hb0 with ⟨X, x, rfl, hX, hx1, hx2, rfl, rfl, rfl, rfl⟩ | ⟨X, Y, Z, x, y, z, rfl, hX, hx1, hx2, hY, hy1, hy2, hZ, hz2, rfl, rfl, rfl, rfl⟩ | ⟨X, x, rfl, hX, hx2, rfl, rfl, rfl, rfl⟩
  · rcases ht with ⟨rfl, rfl⟩ | ⟨O, v, rfl, hO, rfl⟩
    · exact date_J0 b X x hX hx1 hx2 rest hd hc hs w hb (by simpa using at0)
    · exact date_J1 b X x hX hx1 hx2 O _ hO rest hd hc hs w hb (by simpa using at0)
  · rcases ht with ⟨rfl, rfl⟩ | ⟨O, v, rfl, hO, rfl⟩
    · exact date_M0 b X Y Z x y z hX hx1 hx2 hY hy1 hy2 hZ hz2 rest hd hc hs w hb (by simpa using at0)
    · exact date_M1 b X Y Z x y z hX hx1 hx2 hY hy1 hy2 hZ hz2 O _ hO rest hd hc hs w hb (by simpa using at0)
  · rcases ht with ⟨rfl, rfl⟩ | ⟨O, v, rfl, hO, rfl⟩
    · exact date_N0 b _ x hX hx2 rest hd hc hs w hb (by simpa using at0)
    · exact date_N1 b _ x hX hx2 O _ hO rest hd hc hs w hb (by simpa using at0)
end Go.Proofs.YbulkbdvcDoor.W
