import Derived.Test.YbulkbdvcDoorDstLaws
namespace Go.Proofs.YbulkbdvcDoor.W
open Go.RowKit
set_option linter.unusedVariables false
open Go.Proofs.YbulkbdvcDoor.P Go.Proofs.YbulkbdvcDoor.B
open Go.Proofs.YbulkbdvcDoor.O (OffBounds)

set_option maxRecDepth 100000 in
set_option maxHeartbeats 4000000 in
theorem law_FN (a1 a2 : Option Addr) (len1 cap1 len2 cap2 : Nat) (ang1 ang2 : Bool) (G H M S F : Int) (G2 H2 M2 S2 F2 : Int) (semi : Bool) (K1 A1 B1 C1 : Int) (x1 : Bool) (p1 p2 p3 p4 p5 : Int) (K2 A2 B2 C2 : Int) (x2 : Bool) (q1 q2 q3 q4 q5 : Int)
    (hl1 : len1 ≤ 1024) (hl2 : len2 ≤ 1024) (ob1 : OffBounds G H M S F) (ob2 : OffBounds G2 H2 M2 S2 F2) (db1 : DateBounds K1 A1 B1 C1 p1 p2 p3 p4 p5) (db2 : DateBounds K2 A2 B2 C2 q1 q2 q3 q4 q5) (w : World) (hrow1 : Row8 w a1 len1) (hrow2 : Row8 w a2 len2) (hdf : Defaults w) :
    Calls Ybad.prog 4 #[.slice a1 len1 cap1, .slice a2 len2 cap2, .bool ang1, .bool ang2, .agg (offV G H M S F), .bool false, .agg (offV G2 H2 M2 S2 F2), .bool false, .bool semi, .agg (dateV K1 A1 B1 C1 x1 p1 p2 p3 p4 p5), .agg (dateV K2 A2 B2 C2 x2 q1 q2 q3 q4 q5)] w
      fun e w' => e = .returned (.bool true) ∧ Below w.heap.size w w' := by
  have bel0 := ((((Below.refl w.heap.size w).alloc (Nat.le_refl _) (.cells (offV G H M S F) 25)).alloc (by simp) (.cells (offV G2 H2 M2 S2 F2) 25)).alloc (by simp; omega) (.cells (dateV K1 A1 B1 C1 x1 p1 p2 p3 p4 p5) 41)).alloc (by simp; omega) (.cells (dateV K2 A2 B2 C2 x2 q1 q2 q3 q4 q5) 41)
  go_enter Ybad.func4, Ybad.ntmps4
  go_wp2_with fail
  refine (gen_ok a1 len1 cap1 ang1 hl1 _ (hrow1.below bel0)).mono ?_
  rintro e w1 ⟨txt, ab, rfl, hnm, ht1, ht2, hb1⟩
  have N0 : Hid (Blk w1 (w.heap.size) (offV G H M S F) 25) := Blk.below ((((Blk.new _ _ 25 _ rfl).alloc _).alloc _).alloc _) hb1
  have N1 : Hid (Blk w1 (w.heap.size + 1) (offV G2 H2 M2 S2 F2) 25) := Blk.below (((Blk.new _ _ 25 _ (by simp)).alloc _).alloc _) hb1
  have N2 : Hid (Blk w1 (w.heap.size + 1 + 1) (dateV K1 A1 B1 C1 x1 p1 p2 p3 p4 p5) 41) := Blk.below ((Blk.new _ _ 41 _ (by simp)).alloc _) hb1
  have N3 : Hid (Blk w1 (w.heap.size + 1 + 1 + 1) (dateV K2 A2 B2 C2 x2 q1 q2 q3 q4 q5) 41) := Blk.below (Blk.new _ _ 41 _ (by simp)) hb1
  have W1 : Hid (Below w.heap.size w w1) := bel0.trans (hb1.mono (by simp; omega))
  clear hb1
  go_wp2_with fail
  refine (gen_ok a2 len2 cap2 ang2 hl2 _ (hrow2.below W1.out)).mono ?_
  rintro e w2 ⟨txt2, ab2, rfl, hnm2, ht3, ht4, hb2⟩
  have N0_w2 : Hid (Blk w2 (w.heap.size) (offV G H M S F) 25) := Blk.below N0.out hb2
  have N1_w2 : Hid (Blk w2 (w.heap.size + 1) (offV G2 H2 M2 S2 F2) 25) := Blk.below N1.out hb2
  have N2_w2 : Hid (Blk w2 (w.heap.size + 1 + 1) (dateV K1 A1 B1 C1 x1 p1 p2 p3 p4 p5) 41) := Blk.below N2.out hb2
  have N3_w2 : Hid (Blk w2 (w.heap.size + 1 + 1 + 1) (dateV K2 A2 B2 C2 x2 q1 q2 q3 q4 q5) 41) := Blk.below N3.out hb2
  have W2 : Hid (Below w.heap.size w w2) := W1.out.trans (hb2.mono W1.out.size)
  clear hb2 N0 N1 N2 N3
  go_wp2_with (refine wpList_load_row rfl 25 (.tmp 15) rfl _ rfl 25 _ (0, 0) _ N0_w2.out Ybad.underlying25 rfl info25 ?_)
  refine (off_v ob1 _).mono ?_
  rintro e w3 ⟨O, v, rfl, hO, hO2, hb3⟩
  have N0_w3 : Hid (Blk w3 (w.heap.size) (offV G H M S F) 25) := Blk.below N0_w2.out hb3
  have N1_w3 : Hid (Blk w3 (w.heap.size + 1) (offV G2 H2 M2 S2 F2) 25) := Blk.below N1_w2.out hb3
  have N2_w3 : Hid (Blk w3 (w.heap.size + 1 + 1) (dateV K1 A1 B1 C1 x1 p1 p2 p3 p4 p5) 41) := Blk.below N2_w2.out hb3
  have N3_w3 : Hid (Blk w3 (w.heap.size + 1 + 1 + 1) (dateV K2 A2 B2 C2 x2 q1 q2 q3 q4 q5) 41) := Blk.below N3_w2.out hb3
  have W3 : Hid (Below w.heap.size w w3) := W2.out.trans (hb3.mono W2.out.size)
  obtain ⟨hv1, hv2⟩ := off_bound hO
  have z1 := bsize ht1
  have z2 := bsize hO2
  have z3 := bsize ht3
  have s3 : w.heap.size ≤ w3.heap.size := W3.out.size
  clear hb3 N0_w2 N1_w2 N2_w2 N3_w2
  have H5 : Hid (Blk (w3.alloc (.cells #[.string (strB ab2), .int .i64 (-v + 3600), .bool true] 31)) (w3.heap.size) #[.string (strB ab2), .int .i64 (-v + 3600), .bool true] 31) := Blk.new w3 _ 31 _ rfl
  have W5 : Hid (Below w.heap.size w (w3.alloc (.cells #[.string (strB ab2), .int .i64 (-v + 3600), .bool true] 31))) := Below.alloc W3.out s3 _
  have N2_w5 : Hid (Blk (w3.alloc (.cells #[.string (strB ab2), .int .i64 (-v + 3600), .bool true] 31)) (w.heap.size + 1 + 1) (dateV K1 A1 B1 C1 x1 p1 p2 p3 p4 p5) 41) := N2_w3.out.alloc _
  have N3_w5 : Hid (Blk (w3.alloc (.cells #[.string (strB ab2), .int .i64 (-v + 3600), .bool true] 31)) (w.heap.size + 1 + 1 + 1) (dateV K2 A2 B2 C2 x2 q1 q2 q3 q4 q5) 41) := N3_w3.out.alloc _
  go_wp2_with (first | (refine wpList_store_row rfl 31 (.tmp 30) _ rfl _ _ rfl rfl 31 _ (heap_top _ _ _ (by simp)) info31 rfl (all_one rfl) ?_; rw [setRow_top _ _ _ _ _ (by simp)]) | (refine wpList_load_row rfl 31 (.tmp 30) rfl _ rfl 31 _ (0, 0) _ H5.out Ybad.underlying31 rfl info31 ?_) | (refine wpList_store_row rfl 36 (.tmp 33) _ rfl _ _ rfl rfl 36 _ (heap_top _ _ _ (by simp)) info36 rfl (all_one rfl) ?_; rw [setRow_top _ _ _ _ _ (by simp)]))
  have S5 : (w3.alloc (.cells #[.string (strB ab2), .int .i64 (-v + 3600), .bool true] 31)).heap.size = w3.heap.size + 1 := by simp
  have W6 : Hid (Below w.heap.size w ((w3.alloc (.cells #[.string (strB ab2), .int .i64 (-v + 3600), .bool true] 31)).alloc (.cells (dstRule ab v ab2 (-v + 3600) [77] 0 2 3 7200 [77] 0 1 11 7200) 36))) := Below.alloc W5.out W5.out.size _
  have H33 : Hid (Blk ((w3.alloc (.cells #[.string (strB ab2), .int .i64 (-v + 3600), .bool true] 31)).alloc (.cells (dstRule ab v ab2 (-v + 3600) [77] 0 2 3 7200 [77] 0 1 11 7200) 36)) (w3.heap.size + 1) (dstRule ab v ab2 (-v + 3600) [77] 0 2 3 7200 [77] 0 1 11 7200) 36) := Blk.new _ _ 36 _ (by rw [S5])
  refine (rule_a' _ txt ab O txt2 ab2 v (by simp only [strB_append]; simp) hnm hO hnm2 (by simp; omega) _ (hdf.below W6.out)).mono ?_
  rintro e w6 ⟨rfl, hb6⟩
  have K33 : Hid (Blk w6 (w3.heap.size + 1) (dstRule ab v ab2 (-v + 3600) [77] 0 2 3 7200 [77] 0 1 11 7200) 36) := Blk.below H33.out hb6
  have W7 : Hid (Below w.heap.size w w6) := W6.out.trans (hb6.mono W6.out.size)
  have s7 : w.heap.size ≤ w6.heap.size := W7.out.size
  have heq2 : ∀ x, (binOp .eql 36 (.agg (dstRule ab v ab2 (-v + 3600) [77] 0 2 3 7200 [77] 0 1 11 7200)) (.agg (dstRule ab v ab2 (-v + 3600) [77] 0 2 3 7200 [77] 0 1 11 7200))).run Ybad.prog x = .ok (.bool true) x := fun x => eq36 x _ _ _ _ _ _ _ _ _ _ _ _ _ _ _ _ _
  clear hb6
  go_wp2_with (first | (refine wpList_store_row rfl 36 (.tmp 39) _ rfl _ _ rfl rfl 36 _ (heap_top _ _ _ (by simp)) info36 rfl (all_one rfl) ?_; rw [setRow_top _ _ _ _ _ (by simp)]) | (refine load_row_g rfl 36 (.tmp 39) rfl _ rfl 36 _ (0, 0) _ (heap_top _ _ _ (by simp)) Ybad.underlying36 rfl info36 ?_) | (refine load_row_g rfl 36 (.tmp 33) rfl _ rfl 36 _ (0, 0) _ (K33.out.alloc _) Ybad.underlying36 rfl info36 ?_))
  go_ret
  exact ⟨rfl, Below.alloc W7.out s7 _⟩

end Go.Proofs.YbulkbdvcDoor.W
