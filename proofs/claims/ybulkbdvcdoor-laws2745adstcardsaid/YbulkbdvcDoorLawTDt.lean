import Derived.Test.YbulkbdvcDoorDstLaws
namespace Go.Proofs.YbulkbdvcDoor.W
open Go.RowKit
set_option linter.unusedVariables false
open Go.Proofs.YbulkbdvcDoor.P Go.Proofs.YbulkbdvcDoor.B
open Go.Proofs.YbulkbdvcDoor.O (OffBounds)

set_option maxRecDepth 100000 in
set_option maxHeartbeats 4000000 in
theorem law_TDt (a1 a2 : Option Addr) (len1 cap1 len2 cap2 : Nat) (ang1 ang2 : Bool) (G H M S F : Int) (G2 H2 M2 S2 F2 : Int) (K1 A1 B1 C1 : Int) (x1 : Bool) (p1 p2 p3 p4 p5 : Int) (K2 A2 B2 C2 : Int) (x2 : Bool) (q1 q2 q3 q4 q5 : Int)
    (hl1 : len1 ≤ 1024) (hl2 : len2 ≤ 1024) (ob1 : OffBounds G H M S F) (ob2 : OffBounds G2 H2 M2 S2 F2) (db1 : DateBounds K1 A1 B1 C1 p1 p2 p3 p4 p5) (db2 : DateBounds K2 A2 B2 C2 q1 q2 q3 q4 q5) (w : World) (hrow1 : Row8 w a1 len1) (hrow2 : Row8 w a2 len2) (hdf : Defaults w) :
    Calls Ybad.prog 4 #[.slice a1 len1 cap1, .slice a2 len2 cap2, .bool ang1, .bool ang2, .agg (offV G H M S F), .bool true, .agg (offV G2 H2 M2 S2 F2), .bool true, .bool true, .agg (dateV K1 A1 B1 C1 x1 p1 p2 p3 p4 p5), .agg (dateV K2 A2 B2 C2 x2 q1 q2 q3 q4 q5)] w
      fun e w' => e = .returned (.bool true) ∧ Below w.heap.size w w' := by
  have bel0 := ((((Below.refl w.heap.size w).alloc (Nat.le_refl _) (.cells (offV G H M S F) 25)).alloc (by simp) (.cells (offV G2 H2 M2 S2 F2) 25)).alloc (by simp; omega) (.cells (dateV K1 A1 B1 C1 x1 p1 p2 p3 p4 p5) 41)).alloc (by simp; omega) (.cells (dateV K2 A2 B2 C2 x2 q1 q2 q3 q4 q5) 41)
  go_enter Ybad.func4, Ybad.ntmps4
  go_wp2_with fail
  refine (gen_ok a1 len1 cap1 ang1 hl1 _ (hrow1.below bel0)).mono ?_
  rintro e w1 ⟨txt, ab, rfl, hnm, ht1, ht2, hb1⟩
  have N0 : Hid (Blk w1 (w.heap.size) (offV G H M S F) 25) := Blk.below ((((Blk.new _ _ 25 _ rfl).alloc _).alloc _).alloc _) hb1
  have N1 : Hid (Blk w1 (w.heap.size + 1) (offV G2 H2 M2 S2 F2) 25) := Blk.below (((Blk.new _ _ 25 _ (by simp)).alloc _).alloc _) hb1
  have N2 : Hid (Blk w1 (w.heap.size + 1 + 1) (dateV K1 A1 B1 C1 x1 p1 p2 p3 p4 p5) 41) := Blk.below ((Blk.new _ _ 41 _ (by simp)).alloc _) hb1
  have N3 : Hid (Blk w1 (w.heap.size + 1 + 1 + 1) (dateV K2 A2 B2 C2 x2 q1 q2 q3 q4 q5) 41) := Blk.below (Blk.new _ _ 41 _ (by simp)) hb1
  have W1 : Hid (Below w.heap.size w w1) := bel0.trans (hb1.mono (by simp; omega))
  clear hb1
  go_wp2_with fail
  refine (gen_ok a2 len2 cap2 ang2 hl2 _ (hrow2.below W1.out)).mono ?_
  rintro e w2 ⟨txt2, ab2, rfl, hnm2, ht3, ht4, hb2⟩
  have N0_w2 : Hid (Blk w2 (w.heap.size) (offV G H M S F) 25) := Blk.below N0.out hb2
  have N1_w2 : Hid (Blk w2 (w.heap.size + 1) (offV G2 H2 M2 S2 F2) 25) := Blk.below N1.out hb2
  have N2_w2 : Hid (Blk w2 (w.heap.size + 1 + 1) (dateV K1 A1 B1 C1 x1 p1 p2 p3 p4 p5) 41) := Blk.below N2.out hb2
  have N3_w2 : Hid (Blk w2 (w.heap.size + 1 + 1 + 1) (dateV K2 A2 B2 C2 x2 q1 q2 q3 q4 q5) 41) := Blk.below N3.out hb2
  have W2 : Hid (Below w.heap.size w w2) := W1.out.trans (hb2.mono W1.out.size)
  clear hb2 N0 N1 N2 N3
  go_wp2_with (refine wpList_load_row rfl 25 (.tmp 15) rfl _ rfl 25 _ (0, 0) _ N0_w2.out Ybad.underlying25 rfl info25 ?_)
  refine (off_v ob1 _).mono ?_
  rintro e w3 ⟨O, v, rfl, hO, hO2, hb3⟩
  have N0_w3 : Hid (Blk w3 (w.heap.size) (offV G H M S F) 25) := Blk.below N0_w2.out hb3
  have N1_w3 : Hid (Blk w3 (w.heap.size + 1) (offV G2 H2 M2 S2 F2) 25) := Blk.below N1_w2.out hb3
  have N2_w3 : Hid (Blk w3 (w.heap.size + 1 + 1) (dateV K1 A1 B1 C1 x1 p1 p2 p3 p4 p5) 41) := Blk.below N2_w2.out hb3
  have N3_w3 : Hid (Blk w3 (w.heap.size + 1 + 1 + 1) (dateV K2 A2 B2 C2 x2 q1 q2 q3 q4 q5) 41) := Blk.below N3_w2.out hb3
  have W3 : Hid (Below w.heap.size w w3) := W2.out.trans (hb3.mono W2.out.size)
  obtain ⟨hv1, hv2⟩ := off_bound hO
  have z1 := bsize ht1
  have z2 := bsize hO2
  have z3 := bsize ht3
  have s3 : w.heap.size ≤ w3.heap.size := W3.out.size
  clear hb3 N0_w2 N1_w2 N2_w2 N3_w2
  go_wp2_with (first | (refine wpList_store_row rfl 31 (.tmp 30) _ rfl _ _ rfl rfl 31 _ (heap_top _ _ _ (by simp)) info31 rfl (all_one rfl) ?_; rw [setRow_top _ _ _ _ _ (by simp)]) | (refine wpList_load_row rfl 25 (.tmp 17) rfl _ rfl 25 _ (0, 0) _ (N1_w3.out.alloc _) Ybad.underlying25 rfl info25 ?_))
  refine (off_v ob2 _).mono ?_
  rintro e w4 ⟨O2, v2, rfl, hP, hP2, hb4⟩
  obtain ⟨hv3, hv4⟩ := off_bound hP
  have z4 := bsize hP2
  have m30 := (Blk.new w3 #[.string (strB ab2), .int .i64 (-v + 3600), .bool true] 31 _ rfl).below hb4
  have r1 : w4.cell? ⟨w3.heap.size, 1, none⟩ = some (.int .i64 (-v + 3600)) := m30.cell 1
  have r2 := m30.free 1
  have N2_w4 : Hid (Blk w4 (w.heap.size + 1 + 1) (dateV K1 A1 B1 C1 x1 p1 p2 p3 p4 p5) 41) := (N2_w3.out.alloc _).below hb4
  have N3_w4 : Hid (Blk w4 (w.heap.size + 1 + 1 + 1) (dateV K2 A2 B2 C2 x2 q1 q2 q3 q4 q5) 41) := (N3_w3.out.alloc _).below hb4
  have W4 : Hid (Below w.heap.size w w4) := Below.trans (Below.alloc W3.out s3 _) (hb4.mono (by simp; omega))
  have H30 := hide m30
  clear m30 hb4
  have H5 : Hid (Blk (w4.setCell ⟨w3.heap.size, 1, none⟩ (.int .i64 (-v2))) (w3.heap.size) #[.string (strB ab2), .int .i64 (-v2), .bool true] 31) := H30.out.set 1 _
  have N2_w5 : Hid (Blk (w4.setCell ⟨w3.heap.size, 1, none⟩ (.int .i64 (-v2))) (w.heap.size + 1 + 1) (dateV K1 A1 B1 C1 x1 p1 p2 p3 p4 p5) 41) := N2_w4.out.other (by have := N3_w3.out.lt; simp; omega) _
  have N3_w5 : Hid (Blk (w4.setCell ⟨w3.heap.size, 1, none⟩ (.int .i64 (-v2))) (w.heap.size + 1 + 1 + 1) (dateV K2 A2 B2 C2 x2 q1 q2 q3 q4 q5) 41) := N3_w4.out.other (by have := N3_w3.out.lt; simp; omega) _
  have W5 : Hid (Below w.heap.size w (w4.setCell ⟨w3.heap.size, 1, none⟩ (.int .i64 (-v2)))) := W4.out.setCell s3 _
  go_wp2_with (first | (refine wpList_load_row rfl 31 (.tmp 30) rfl _ rfl 31 _ (0, 0) _ H5.out Ybad.underlying31 rfl info31 ?_) | (refine wpList_store_row rfl 36 (.tmp 33) _ rfl _ _ rfl rfl 36 _ (heap_top _ _ _ (by simp)) info36 rfl (all_one rfl) ?_; rw [setRow_top _ _ _ _ _ (by simp)]) | (refine wpList_load_row rfl 41 (.tmp 20) rfl _ rfl 41 _ (0, 0) _ (N2_w5.out.alloc _) Ybad.underlying41 rfl info41 ?_))
  have S5 : (w4.setCell ⟨w3.heap.size, 1, none⟩ (.int .i64 (-v2))).heap.size = w4.heap.size := by simp
  have W6 : Hid (Below w.heap.size w ((w4.setCell ⟨w3.heap.size, 1, none⟩ (.int .i64 (-v2))).alloc (.cells (dstRule ab v ab2 (-v2) [77] 0 2 3 7200 [77] 0 1 11 7200) 36))) := Below.alloc W5.out W5.out.size _
  have H33 : Hid (Blk ((w4.setCell ⟨w3.heap.size, 1, none⟩ (.int .i64 (-v2))).alloc (.cells (dstRule ab v ab2 (-v2) [77] 0 2 3 7200 [77] 0 1 11 7200) 36)) (w4.heap.size) (dstRule ab v ab2 (-v2) [77] 0 2 3 7200 [77] 0 1 11 7200) 36) := Blk.new _ _ 36 _ (by rw [S5])
  refine (dgen_v db1 _).mono ?_
  rintro e w7 ⟨D1, f1, d1, k1, m1, t1, rfl, hD1, hD1l, hb7⟩
  have H33_w7 : Hid (Blk w7 (w4.heap.size) (dstRule ab v ab2 (-v2) [77] 0 2 3 7200 [77] 0 1 11 7200) 36) := Blk.below H33.out hb7
  have N3_w7 : Hid (Blk w7 (w.heap.size + 1 + 1 + 1) (dateV K2 A2 B2 C2 x2 q1 q2 q3 q4 q5) 41) := (N3_w5.out.alloc _).below hb7
  have W7 : Hid (Below w.heap.size w w7) := W6.out.trans (hb7.mono W6.out.size)
  have z7 := bsize hD1l
  clear hb7
  go_wp2_with (first | (refine wpList_store_row rfl 34 (.tmp 36) _ rfl _ _ rfl rfl 34 _ (heap_top _ _ _ (by simp)) info34 rfl (all_one rfl) ?_; rw [setRow_top _ _ _ _ _ (by simp)]) | (refine wpList_load_row rfl 41 (.tmp 21) rfl _ rfl 41 _ (0, 0) _ (N3_w7.out.alloc _) Ybad.underlying41 rfl info41 ?_))
  refine (dgen_v db2 _).mono ?_
  rintro e w8 ⟨D2, f2, d2, k2, m2, t2, rfl, hD2, hD2l, hb8⟩
  have H33_w8 : Hid (Blk w8 (w4.heap.size) (dstRule ab v ab2 (-v2) [77] 0 2 3 7200 [77] 0 1 11 7200) 36) := (H33_w7.out.alloc _).below hb8
  have H36_w8 : Hid (Blk w8 (w7.heap.size) (dateCells f1 d1 k1 m1 t1) 34) := (Blk.new w7 _ 34 _ rfl).below hb8
  have W8 : Hid (Below w.heap.size w w8) := Below.trans (Below.alloc W7.out W7.out.size _) (hb8.mono (by have := W7.out.size; simp; omega))
  have l33 := H33_w8.out.lt
  have l36 := H36_w8.out.lt
  have z8 := bsize hD2l
  clear hb8
  have s8 : w.heap.size ≤ w8.heap.size := W8.out.size
  go_wp2_with (first | (refine wpList_store_row rfl 34 (.tmp 38) _ rfl _ _ rfl rfl 34 _ (heap_top _ _ _ (by simp)) info34 rfl (all_one rfl) ?_; rw [setRow_top _ _ _ _ _ (by simp)]) | (refine wpList_load_row rfl 34 (.tmp 36) rfl _ rfl 34 _ (0, 0) _ (H36_w8.out.alloc _) Ybad.underlying34 rfl info34 ?_) | (refine store5 rfl (.tmp 120) _ rfl (w4.heap.size) 7 _ _ _ _ _ rfl rfl (all_one rfl) (dstRule ab v ab2 (-v2) [77] 0 2 3 7200 [77] 0 1 11 7200) (dstRule ab v ab2 (-v2) f1 d1 k1 m1 t1 [77] 0 1 11 7200) (H33_w8.out.alloc _) (by simp [dstRule]) (by simp [dstRule]) ?_))
  intro w9 b9 but9
  have H33_w9 := hide b9
  have H38_w9 : Hid (Blk w9 (w8.heap.size) (dateCells f2 d2 k2 m2 t2) 34) := but9.blk (by omega) (Blk.new w8 _ 34 _ rfl)
  have g33 : w.heap.size ≤ w4.heap.size := W4.out.size
  have W9 : Hid (Below w.heap.size w w9) := but9.below (Below.alloc W8.out s8 _) g33
  clear b9 but9
  go_wp2_with (first | (refine wpList_load_row rfl 34 (.tmp 38) rfl _ rfl 34 _ (0, 0) _ H38_w9.out Ybad.underlying34 rfl info34 ?_) | (refine store5 rfl (.tmp 122) _ rfl (w4.heap.size) 12 _ _ _ _ _ rfl rfl (all_one rfl) (dstRule ab v ab2 (-v2) f1 d1 k1 m1 t1 [77] 0 1 11 7200) (dstRule ab v ab2 (-v2) f1 d1 k1 m1 t1 f2 d2 k2 m2 t2) H33_w9.out (by simp [dstRule]) (by simp [dstRule]) ?_))
  intro w10 b10 but10
  have H33_w10 := hide b10
  have W10 : Hid (Below w.heap.size w w10) := but10.below W9.out g33
  clear b10 but10
  go_wp2_with fail
  refine (rule_e' _ txt ab O txt2 ab2 O2 v v2 D1 f1 d1 k1 m1 t1 D2 f2 d2 k2 m2 t2 ?e1 hnm hO hnm2 hP hD1 hD2 ?e2 _ (hdf.below W10.out)).mono ?_
  case e1 => simp only [lit1, strB_append]; simp
  case e2 => simp; omega
  rintro e w6 ⟨rfl, hb6⟩
  have K33 : Hid (Blk w6 (w4.heap.size) (dstRule ab v ab2 (-v2) f1 d1 k1 m1 t1 f2 d2 k2 m2 t2) 36) := Blk.below H33_w10.out hb6
  have W7 : Hid (Below w.heap.size w w6) := W10.out.trans (hb6.mono W10.out.size)
  have s7 : w.heap.size ≤ w6.heap.size := W7.out.size
  have heq2 : ∀ x, (binOp .eql 36 (.agg (dstRule ab v ab2 (-v2) f1 d1 k1 m1 t1 f2 d2 k2 m2 t2)) (.agg (dstRule ab v ab2 (-v2) f1 d1 k1 m1 t1 f2 d2 k2 m2 t2))).run Ybad.prog x = .ok (.bool true) x := fun x => eq36 x _ _ _ _ _ _ _ _ _ _ _ _ _ _ _ _ _
  clear hb6
  go_wp2_with (first | (refine wpList_store_row rfl 36 (.tmp 39) _ rfl _ _ rfl rfl 36 _ (heap_top _ _ _ (by simp)) info36 rfl (all_one rfl) ?_; rw [setRow_top _ _ _ _ _ (by simp)]) | (refine load_row_g rfl 36 (.tmp 39) rfl _ rfl 36 _ (0, 0) _ (heap_top _ _ _ (by simp)) Ybad.underlying36 rfl info36 ?_) | (refine load_row_g rfl 36 (.tmp 33) rfl _ rfl 36 _ (0, 0) _ (K33.out.alloc _) Ybad.underlying36 rfl info36 ?_))
  go_ret
  exact ⟨rfl, Below.alloc W7.out s7 _⟩

end Go.Proofs.YbulkbdvcDoor.W
