import Derived.Test.YbulkbdvcDoorDstB
namespace Go.Proofs.YbulkbdvcDoor.W
open Go.RowKit
set_option linter.unusedVariables false
open Go.Proofs.YbulkbdvcDoor.P Go.Proofs.YbulkbdvcDoor.B

set_option maxRecDepth 100000 in
set_option maxHeartbeats 4000000 in
theorem rule_d (txt ab O txt2 ab2 : List UInt8) (v : Int) (hn : Name txt ab) (hO : Off O v) (hn2 : Name txt2 ab2) (O2 : List UInt8) (v2 : Int) (hO2 : Off O2 v2) (D1 F1 : List UInt8) (d1 k1 m1 t1 : Int) (hD1 : DateT D1 F1 d1 k1 m1 t1) (D2 F2 : List UInt8) (d2 k2 m2 t2 : Int) (hD2 : DateT D2 F2 d2 k2 m2 t2) (E : List UInt8) (hE : E = []) (hsm : (txt ++ (O ++ (txt2 ++ (O2 ++ (44 :: (D1 ++ 44 :: (D2 ++ E))))))).length ≤ 1000000) (w : World) (hdf : Defaults w) :
    Calls Ybad.prog 7 #[.string (strB (txt ++ (O ++ (txt2 ++ (O2 ++ (44 :: (D1 ++ 44 :: (D2 ++ E))))))))] w fun e w' => e = .returned (.tuple #[.agg (dstRule ab v ab2 (-v2) F1 d1 k1 m1 t1 F2 d2 k2 m2 t2), .bool true]) ∧ Below w.heap.size w w' := by
  have hsm1 : (O ++ (txt2 ++ (O2 ++ (44 :: (D1 ++ 44 :: (D2 ++ E)))))).length ≤ 1000000 := by rw [List.length_append] at hsm; omega
  have hsm2 : (txt2 ++ (O2 ++ (44 :: (D1 ++ 44 :: (D2 ++ E))))).length ≤ 1000000 := by rw [List.length_append] at hsm1; omega
  have hsm3 : ((O2 ++ (44 :: (D1 ++ 44 :: (D2 ++ E))))).length ≤ 1000000 := by rw [List.length_append] at hsm2; omega
  have hsm4 : ((44 :: (D1 ++ 44 :: (D2 ++ E)))).length ≤ 1000000 := by rw [List.length_append] at hsm3; omega
  have hsm5 : (D1 ++ 44 :: (D2 ++ E)).length ≤ 1000000 := by rw [List.length_cons] at hsm4; omega
  have hsm6 : (44 :: (D2 ++ E)).length ≤ 1000000 := by rw [List.length_append] at hsm5; omega
  have hsm7 : (D2 ++ E).length ≤ 1000000 := by rw [List.length_cons] at hsm6; omega
  have hem : (strB E).toList.isEmpty = true := by rw [hE]; exact empty_end
  have hEd : NoDig E := by rw [hE]; intro c hc; simp at hc
  have hEc : ∀ c, NoC c E := by rw [hE]; intro c d hd; simp at hd
  clear hE
  have hst : Stops (O2 ++ (44 :: (D1 ++ 44 :: (D2 ++ E)))) := off_stops hO2 _
  obtain ⟨hxp, hxe, hx44⟩ := off_facts hO2 (44 :: (D1 ++ 44 :: (D2 ++ E)))
  obtain ⟨hw1', hw2'⟩ := off_bound hO2
  have hye : (strB (44 :: (D1 ++ 44 :: (D2 ++ E)))).toList.isEmpty = false := nonempty (by rw [strB_size]; simp)
  obtain ⟨hv1, hv2⟩ := off_bound hO
  obtain ⟨hnd, hnc, hp, hne, h44⟩ := name_facts hn2 (O2 ++ (44 :: (D1 ++ 44 :: (D2 ++ E))))
  have hw2 : 1 < w.heap.size := hdf.lt
  have hw1 : 0 < w.heap.size := by omega
  have hw3 : 1 < w.heap.size + 1 := by omega
  have hw4 : 1 < w.heap.size + 1 + 1 := by omega
  obtain ⟨⟨a0, a1, a2, a3, a4⟩, b0, b1, b2, b3, b4⟩ := hdf.cells
  go_enter Ybad.func7, Ybad.ntmps7
  go_wp2_with fail
  refine (name_ok _ txt ab (O ++ (txt2 ++ (O2 ++ (44 :: (D1 ++ 44 :: (D2 ++ E)))))) hn (off_stops hO _) _ ((At.new _ _ hsm _ (by simp)).alloc _ (by first | omega | (simp; done) | (simp; omega)))).mono ?_
  rintro e w' ⟨rfl, rfl⟩
  go_wp2_with fail
  refine (offset_ok _ O (txt2 ++ (O2 ++ (44 :: (D1 ++ 44 :: (D2 ++ E))))) v hO hnd hnc _ ((At.new _ _ hsm1 _ (by simp)).alloc _ (by first | omega | (simp; done) | (simp; omega)))).mono ?_
  rintro e w' ⟨rfl, rfl⟩
  go_wp2_with fail
  go_region_held3 (fun w' => w'.cell? ⟨w.heap.size + 1 + 1, 1, none⟩ = some (.int .i64 (-v))) ((go_simp; done)) ((go_at_call 10; refine (name_ok _ txt2 ab2 (O2 ++ (44 :: (D1 ++ 44 :: (D2 ++ E)))) hn2 hst _ ((At.new _ _ hsm2 _ (by simp)).alloc _ (by first | omega | (simp; done) | (simp; omega))).drew).mono ?_; rintro e w' ⟨rfl, rfl⟩))
  go_wp2_with fail
  refine (offset_ok _ O2 (44 :: (D1 ++ 44 :: (D2 ++ E))) v2 hO2 (noDig_cons 44 _ rfl) (noC_cons 44 _ (by decide)) _ ((At.new _ _ hsm3 _ (by simp)).alloc _ (by first | omega | (simp; done) | (simp; omega))).drew).mono ?_
  rintro e w' ⟨rfl, rfl⟩
  go_wp2_with fail
  go_region_held3 (fun w' => w'.cell? ⟨0, 0, none⟩ = some (.string (strB [77])) ∧ w'.cell? ⟨0, 1, none⟩ = some (.int .i64 0) ∧ w'.cell? ⟨0, 2, none⟩ = some (.int .i64 2) ∧ w'.cell? ⟨0, 3, none⟩ = some (.int .i64 3) ∧ w'.cell? ⟨0, 4, none⟩ = some (.int .i64 7200) ∧ w'.cell? ⟨1, 0, none⟩ = some (.string (strB [77])) ∧ w'.cell? ⟨1, 1, none⟩ = some (.int .i64 0) ∧ w'.cell? ⟨1, 2, none⟩ = some (.int .i64 1) ∧ w'.cell? ⟨1, 3, none⟩ = some (.int .i64 11) ∧ w'.cell? ⟨1, 4, none⟩ = some (.int .i64 7200)) ((go_simp; done)) (fail)
  go_wp2_with fail
  refine (skip_hit _ 44 _ 44 rfl _ ((At.new _ _ hsm4 _ (by simp)).alloc _ (by first | omega | (simp; done) | (simp; omega))).drew.drew).mono ?_
  rintro e w' ⟨rfl, rfl⟩
  go_wp2_with fail
  refine (date_ok _ D1 F1 d1 k1 m1 t1 hD1 (44 :: (D2 ++ E)) (noDig_cons 44 _ rfl) (noC_cons 44 _ (by decide)) (noC_cons 44 _ (by decide)) _ (by first | omega | (simp; done) | (simp; omega)) ((At.new _ _ hsm5 _ (by simp)).alloc _ (by first | omega | (simp; done) | (simp; omega))).drew.drew).mono ?_
  rintro e w' ⟨rfl, rfl⟩
  unfold dateCells
  go_wp2_with fail
  refine (expect_hit _ 44 _ 44 rfl _ ((((At.new _ _ hsm6 _ (by simp)).alloc _ (by first | omega | (simp; done) | (simp; omega))).alloc _ (by first | omega | (simp; done) | (simp; omega))).alloc _ (by first | omega | (simp; done) | (simp; omega))).drew.drew).mono ?_
  rintro e w' ⟨rfl, rfl⟩
  go_wp2_with fail
  refine (date_ok _ D2 F2 d2 k2 m2 t2 hD2 E hEd (hEc 58) (hEc 47) _ (by first | omega | (simp; done) | (simp; omega)) ((((At.new _ _ hsm7 _ (by simp)).alloc _ (by first | omega | (simp; done) | (simp; omega))).alloc _ (by first | omega | (simp; done) | (simp; omega))).alloc _ (by first | omega | (simp; done) | (simp; omega))).drew.drew).mono ?_
  rintro e w' ⟨rfl, rfl⟩
  unfold dateCells
  go_wp2_with (first | (refine wpList_load_row rfl 36 (.tmp 5) rfl _ rfl 36 _ (0, 0) _ ((heap_past _ _ _ (by first | omega | (simp; done) | (simp; omega))).trans ((heap_past _ _ _ (by first | omega | (simp; done) | (simp; omega))).trans ((heap_past _ _ _ (by first | omega | (simp; done) | (simp; omega))).trans ((heap_past _ _ _ (by first | omega | (simp; done) | (simp; omega))).trans (heap_top _ _ _ (by first | omega | (simp; done) | (simp; omega))))))) Ybad.underlying36 rfl info36 ?_) | (refine wpList_store_row rfl 36 (.tmp 2) _ rfl _ _ rfl rfl 36 _ ((heap_past _ _ _ (by first | omega | (simp; done) | (simp; omega))).trans ((heap_past _ _ _ (by first | omega | (simp; done) | (simp; omega))).trans ((heap_past _ _ _ (by first | omega | (simp; done) | (simp; omega))).trans ((heap_past _ _ _ (by first | omega | (simp; done) | (simp; omega))).trans ((heap_past _ _ _ (by first | omega | (simp; done) | (simp; omega))).trans ((heap_past _ _ _ (by first | omega | (simp; done) | (simp; omega))).trans (heap_top _ _ _ (by first | omega | (simp; done) | (simp; omega))))))))) info36 rfl (all_one rfl) ?_; rw [setRow_drew, setRow_drew, setRow_past _ _ _ _ (by first | omega | (simp; done) | (simp; omega)), setRow_past _ _ _ _ (by first | omega | (simp; done) | (simp; omega)), setRow_past _ _ _ _ (by first | omega | (simp; done) | (simp; omega)), setRow_past _ _ _ _ (by first | omega | (simp; done) | (simp; omega)), setRow_past _ _ _ _ (by first | omega | (simp; done) | (simp; omega)), setRow_past _ _ _ _ (by first | omega | (simp; done) | (simp; omega)), setRow_top _ _ _ _ _ (by first | omega | (simp; done) | (simp; omega))]))
  exact bodyPost_ret (results_row_tmp rfl _ _ _ 36 _ (0, 0) _ _ rfl rfl ((heap_past _ _ _ (by first | omega | (simp; done) | (simp; omega))).trans ((heap_past _ _ _ (by first | omega | (simp; done) | (simp; omega))).trans ((heap_past _ _ _ (by first | omega | (simp; done) | (simp; omega))).trans ((heap_past _ _ _ (by first | omega | (simp; done) | (simp; omega))).trans ((heap_past _ _ _ (by first | omega | (simp; done) | (simp; omega))).trans ((heap_past _ _ _ (by first | omega | (simp; done) | (simp; omega))).trans (heap_top _ _ _ (by first | omega | (simp; done) | (simp; omega))))))))) Ybad.underlying36 rfl info36) rfl ⟨rfl, ((((((((Below.refl w.heap.size w).alloc (by first | omega | (simp; done) | (simp; omega)) _).alloc (by first | omega | (simp; done) | (simp; omega)) _).alloc (by first | omega | (simp; done) | (simp; omega)) _).alloc (by first | omega | (simp; done) | (simp; omega)) _).alloc (by first | omega | (simp; done) | (simp; omega)) _).alloc (by first | omega | (simp; done) | (simp; omega)) _).alloc (by first | omega | (simp; done) | (simp; omega)) _).drew.drew⟩

end Go.Proofs.YbulkbdvcDoor.W
