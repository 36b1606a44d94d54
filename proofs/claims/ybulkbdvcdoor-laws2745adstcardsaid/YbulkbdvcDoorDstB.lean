import Derived.Test.YbulkbdvcDoorDstA
namespace Go.Proofs.YbulkbdvcDoor.W
open Go.RowKit
set_option linter.unusedVariables false
open Go.Proofs.YbulkbdvcDoor.P Go.Proofs.YbulkbdvcDoor.B

theorem off_facts {l : List UInt8} {v : Int} (h : Off l v) (r : List UInt8) :
    ∃ hp : 0 < (strB (l ++ r)).size, (strB (l ++ r)).toList.isEmpty = false ∧ ((((strB (l ++ r))[0]'hp).toNat : Int) != 44) = true := by
  have hs := off_stops h r
  have hh : ∃ c m, l ++ r = c :: m ∧ c ≠ 44 := by
    obtain ⟨sg, H, n, tl, sec, rfl, hH, _, _, hsg⟩ := h
    rcases hsg with ⟨rfl, _⟩ | ⟨rfl, _⟩ | ⟨rfl, _⟩
    · cases H with
      | nil => exact absurd rfl hH.ne
      | cons x m =>
        refine ⟨x, _, rfl, ?_⟩
        have := hH.dig x (by simp)
        intro e; subst e; simp at this
    · exact ⟨43, _, rfl, by decide⟩
    · exact ⟨45, _, rfl, by decide⟩
  obtain ⟨c, m, e, hc⟩ := hh
  rw [e]
  have hp : 0 < (strB (c :: m)).size := by rw [strB_size]; simp
  refine ⟨hp, nonempty hp, ?_⟩
  rw [strB_head, bne_iff_ne]
  intro e
  exact hc (UInt8.toNat_inj.1 (by have : (44 : UInt8).toNat = 44 := rfl; omega))

theorem comma_facts (r : List UInt8) : ∃ hp : 0 < (strB (44 :: r)).size, (strB (44 :: r)).toList.isEmpty = false ∧ ((((strB (44 :: r))[0]'hp).toNat : Int) != 44) = false := by
  have hp : 0 < (strB (44 :: r)).size := by rw [strB_size]; simp
  exact ⟨hp, nonempty hp, rfl⟩

set_option maxRecDepth 100000 in
set_option maxHeartbeats 4000000 in
theorem rule_b (txt ab O txt2 ab2 : List UInt8) (v : Int) (hn : Name txt ab) (hO : Off O v) (hn2 : Name txt2 ab2) (O2 : List UInt8) (v2 : Int) (hO2 : Off O2 v2) (Y : List UInt8) (hY : Y = []) (hsm : (txt ++ (O ++ (txt2 ++ (O2 ++ Y)))).length ≤ 1000000) (w : World) (hdf : Defaults w) :
    Calls Ybad.prog 7 #[.string (strB (txt ++ (O ++ (txt2 ++ (O2 ++ Y)))))] w fun e w' => e = .returned (.tuple #[.agg (dstRule ab v ab2 (-v2) [77] 0 2 3 7200 [77] 0 1 11 7200), .bool true]) ∧ Below w.heap.size w w' := by
  have hsm1 : (O ++ (txt2 ++ (O2 ++ Y))).length ≤ 1000000 := by rw [List.length_append] at hsm; omega
  have hsm2 : (txt2 ++ (O2 ++ Y)).length ≤ 1000000 := by rw [List.length_append] at hsm1; omega
  have hsm3 : ((O2 ++ Y)).length ≤ 1000000 := by rw [List.length_append] at hsm2; omega
  have hsm4 : (Y).length ≤ 1000000 := by rw [List.length_append] at hsm3; omega
  have hem : (strB Y).toList.isEmpty = true := by rw [hY]; exact empty_end
  have hYd : NoDig Y := by rw [hY]; intro c hc; simp at hc
  have hYc : NoC 58 Y := by rw [hY]; intro d hd; simp at hd
  clear hY
  have hst : Stops (O2 ++ Y) := off_stops hO2 _
  obtain ⟨hxp, hxe, hx44⟩ := off_facts hO2 Y
  obtain ⟨hw1', hw2'⟩ := off_bound hO2
  obtain ⟨hv1, hv2⟩ := off_bound hO
  obtain ⟨hnd, hnc, hp, hne, h44⟩ := name_facts hn2 (O2 ++ Y)
  have hw2 : 1 < w.heap.size := hdf.lt
  have hw1 : 0 < w.heap.size := by omega
  have hw3 : 1 < w.heap.size + 1 := by omega
  have hw4 : 1 < w.heap.size + 1 + 1 := by omega
  obtain ⟨⟨a0, a1, a2, a3, a4⟩, b0, b1, b2, b3, b4⟩ := hdf.cells
  go_enter Ybad.func7, Ybad.ntmps7
  go_wp2_with fail
  refine (name_ok _ txt ab (O ++ (txt2 ++ (O2 ++ Y))) hn (off_stops hO _) _ ((At.new _ _ hsm _ (by simp)).alloc _ (by first | omega | (simp; done) | (simp; omega)))).mono ?_
  rintro e w' ⟨rfl, rfl⟩
  go_wp2_with fail
  refine (offset_ok _ O (txt2 ++ (O2 ++ Y)) v hO hnd hnc _ ((At.new _ _ hsm1 _ (by simp)).alloc _ (by first | omega | (simp; done) | (simp; omega)))).mono ?_
  rintro e w' ⟨rfl, rfl⟩
  go_wp2_with fail
  go_region_held3 (fun w' => w'.cell? ⟨w.heap.size + 1 + 1, 1, none⟩ = some (.int .i64 (-v))) ((go_simp; done)) ((go_at_call 10; refine (name_ok _ txt2 ab2 (O2 ++ Y) hn2 hst _ ((At.new _ _ hsm2 _ (by simp)).alloc _ (by first | omega | (simp; done) | (simp; omega))).drew).mono ?_; rintro e w' ⟨rfl, rfl⟩))
  go_wp2_with fail
  refine (offset_ok _ O2 Y v2 hO2 hYd hYc _ ((At.new _ _ hsm3 _ (by simp)).alloc _ (by first | omega | (simp; done) | (simp; omega))).drew).mono ?_
  rintro e w' ⟨rfl, rfl⟩
  go_wp2_with fail
  go_region_held3 (fun w' => w'.cell? ⟨0, 0, none⟩ = some (.string (strB [77])) ∧ w'.cell? ⟨0, 1, none⟩ = some (.int .i64 0) ∧ w'.cell? ⟨0, 2, none⟩ = some (.int .i64 2) ∧ w'.cell? ⟨0, 3, none⟩ = some (.int .i64 3) ∧ w'.cell? ⟨0, 4, none⟩ = some (.int .i64 7200) ∧ w'.cell? ⟨1, 0, none⟩ = some (.string (strB [77])) ∧ w'.cell? ⟨1, 1, none⟩ = some (.int .i64 0) ∧ w'.cell? ⟨1, 2, none⟩ = some (.int .i64 1) ∧ w'.cell? ⟨1, 3, none⟩ = some (.int .i64 11) ∧ w'.cell? ⟨1, 4, none⟩ = some (.int .i64 7200)) ((go_simp; done)) (fail)
  go_wp2_with (first | (refine wpList_load_row rfl 36 (.tmp 5) rfl _ rfl 36 _ (0, 0) _ (heap_top _ _ _ (by first | omega | (simp; done) | (simp; omega))) Ybad.underlying36 rfl info36 ?_) | (refine wpList_store_row rfl 36 (.tmp 2) _ rfl _ _ rfl rfl 36 _ ((heap_past _ _ _ (by first | omega | (simp; done) | (simp; omega))).trans ((heap_past _ _ _ (by first | omega | (simp; done) | (simp; omega))).trans (heap_top _ _ _ (by first | omega | (simp; done) | (simp; omega))))) info36 rfl (all_one rfl) ?_; rw [setRow_drew, setRow_drew, setRow_past _ _ _ _ (by first | omega | (simp; done) | (simp; omega)), setRow_past _ _ _ _ (by first | omega | (simp; done) | (simp; omega)), setRow_top _ _ _ _ _ (by first | omega | (simp; done) | (simp; omega))]))
  exact bodyPost_ret (results_row_tmp rfl _ _ _ 36 _ (0, 0) _ _ rfl rfl ((heap_past _ _ _ (by first | omega | (simp; done) | (simp; omega))).trans ((heap_past _ _ _ (by first | omega | (simp; done) | (simp; omega))).trans (heap_top _ _ _ (by first | omega | (simp; done) | (simp; omega))))) Ybad.underlying36 rfl info36) rfl ⟨rfl, ((((Below.refl w.heap.size w).alloc (by first | omega | (simp; done) | (simp; omega)) _).alloc (by first | omega | (simp; done) | (simp; omega)) _).alloc (by first | omega | (simp; done) | (simp; omega)) _).drew.drew⟩

end Go.Proofs.YbulkbdvcDoor.W
