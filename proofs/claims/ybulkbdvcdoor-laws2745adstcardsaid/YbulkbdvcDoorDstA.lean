import Derived.Test.YbulkbdvcDoorDate
import Derived.Deep.RegionHeld3
namespace Go.Proofs.YbulkbdvcDoor.W
open Go.RowKit
open Go.Proofs.YbulkbdvcDoor.P Go.Proofs.YbulkbdvcDoor.B

theorem At.drew {w : World} {b : Nat} {l : List UInt8} (h : At w b l) : At w.drew b l := ⟨h.text, h.good, h.free, h.small⟩

/-- The head of a name: no digit, no colon, no comma. -/
theorem name_head {txt ab : List UInt8} (h : Name txt ab) (r : List UInt8) : ∃ c l, txt ++ r = c :: l ∧ digB c = false ∧ c ≠ 58 ∧ c ≠ 44 := by
  rcases h with ⟨rfl, _⟩ | ⟨rfl, h3, hin⟩
  · exact ⟨60, _, rfl, rfl, by decide, by decide⟩
  · cases txt with
    | nil => simp at h3
    | cons c l =>
      have hc := hin c (by simp)
      refine ⟨c, l ++ r, rfl, ?_, ?_, ?_⟩
      · unfold digB; rw [decide_eq_false_iff_not]; omega
      · intro e; subst e; simp at hc
      · intro e; subst e; simp at hc

theorem name_facts {txt ab : List UInt8} (h : Name txt ab) (r : List UInt8) :
    NoDig (txt ++ r) ∧ NoC 58 (txt ++ r) ∧ ∃ hp : 0 < (strB (txt ++ r)).size, (strB (txt ++ r)).toList.isEmpty = false ∧ ((((strB (txt ++ r))[0]'hp).toNat : Int) == 44) = false := by
  obtain ⟨c, l, hcl, hc1, hc2, hc3⟩ := name_head h r
  rw [hcl]
  have hp : 0 < (strB (c :: l)).size := by rw [strB_size]; simp
  refine ⟨noDig_cons c _ hc1, noC_cons c _ hc2, hp, nonempty hp, ?_⟩
  rw [strB_head, beq_eq_false_iff_ne]
  intro e
  exact hc3 (UInt8.toNat_inj.1 (by have : (44 : UInt8).toNat = 44 := rfl; omega))

/-- The rule with a daylight-saving time: start and end as dates' cells. -/
def dstRule (ab : List UInt8) (v : Int) (ab2 : List UInt8) (v2 : Int) (f1 : List UInt8) (d1 k1 m1 t1 : Int) (f2 : List UInt8) (d2 k2 m2 t2 : Int) : Array Value :=
  #[.string (strB ab), .int .i64 (-v), .bool false, .string (strB ab2), .int .i64 v2, .bool true, .bool true,
    .string (strB f1), .int .i64 d1, .int .i64 k1, .int .i64 m1, .int .i64 t1, .string (strB f2), .int .i64 d2, .int .i64 k2, .int .i64 m2, .int .i64 t2]

theorem setRow_drew (w : World) (n : Nat) (c : Array Value) : w.drew.setRow n c = (w.setRow n c).drew := rfl

/-- The two package-level variables as start-up lays them. -/
structure Defaults (w : World) : Prop where
  start : ∃ t fr, w.heap[0]? = some (.cells (dateCells [77] 0 2 3 7200) t fr)
  stop : ∃ t fr, w.heap[1]? = some (.cells (dateCells [77] 0 1 11 7200) t fr)

theorem Defaults.lt {w : World} (h : Defaults w) : 1 < w.heap.size := by
  obtain ⟨t, fr, h⟩ := h.stop
  exact (Array.getElem?_eq_some_iff.1 h).1

theorem Defaults.cells {w : World} (h : Defaults w) :
    (w.cell? ⟨0, 0, none⟩ = some (.string (strB [77])) ∧ w.cell? ⟨0, 1, none⟩ = some (.int .i64 0) ∧ w.cell? ⟨0, 2, none⟩ = some (.int .i64 2) ∧ w.cell? ⟨0, 3, none⟩ = some (.int .i64 3) ∧ w.cell? ⟨0, 4, none⟩ = some (.int .i64 7200)) ∧
    (w.cell? ⟨1, 0, none⟩ = some (.string (strB [77])) ∧ w.cell? ⟨1, 1, none⟩ = some (.int .i64 0) ∧ w.cell? ⟨1, 2, none⟩ = some (.int .i64 1) ∧ w.cell? ⟨1, 3, none⟩ = some (.int .i64 11) ∧ w.cell? ⟨1, 4, none⟩ = some (.int .i64 7200)) := by
  obtain ⟨t, fr, h0⟩ := h.start
  obtain ⟨t', fr', h1⟩ := h.stop
  refine ⟨⟨?_, ?_, ?_, ?_, ?_⟩, ?_, ?_, ?_, ?_, ?_⟩
  all_goals first | (rw [cell_of_row w 0 _ _ _ _ h0]; rfl) | (rw [cell_of_row w 1 _ _ _ _ h1]; rfl)

set_option maxRecDepth 100000 in
set_option maxHeartbeats 2000000 in
theorem rule_a (txt ab O txt2 ab2 X : List UInt8) (v : Int) (hn : Name txt ab) (hO : Off O v) (hn2 : Name txt2 ab2) (hX : X = []) (hsm : (txt ++ (O ++ (txt2 ++ X))).length ≤ 1000000) (w : World) (hdf : Defaults w) :
    Calls Ybad.prog 7 #[.string (strB (txt ++ (O ++ (txt2 ++ X))))] w fun e w' => e = .returned (.tuple #[.agg (dstRule ab v ab2 (-v + 3600) [77] 0 2 3 7200 [77] 0 1 11 7200), .bool true]) ∧ Below w.heap.size w w' := by
  have hsm1 : (O ++ (txt2 ++ X)).length ≤ 1000000 := by rw [List.length_append] at hsm; omega
  have hsm2 : (txt2 ++ X).length ≤ 1000000 := by rw [List.length_append] at hsm1; omega
  obtain ⟨hv1, hv2⟩ := off_bound hO
  have hst : Stops X := by rw [hX]; intro c hc; simp at hc
  have hem : (strB X).toList.isEmpty = true := by rw [hX]; exact empty_end
  clear hX
  obtain ⟨hnd, hnc, hp, hne, h44⟩ := name_facts hn2 X
  have hw2 : 1 < w.heap.size := hdf.lt
  have hw1 : 0 < w.heap.size := by omega
  have hw3 : 1 < w.heap.size + 1 := by omega
  have hw4 : 1 < w.heap.size + 1 + 1 := by omega
  obtain ⟨⟨a0, a1, a2, a3, a4⟩, b0, b1, b2, b3, b4⟩ := hdf.cells
  go_enter Ybad.func7, Ybad.ntmps7
  go_wp2_with fail
  refine (name_ok _ txt ab (O ++ (txt2 ++ X)) hn (off_stops hO _) _ ((At.new _ _ hsm _ (by simp)).alloc _ (by simp))).mono ?_
  rintro e w' ⟨rfl, rfl⟩
  go_wp2_with fail
  refine (offset_ok _ O (txt2 ++ X) v hO hnd hnc _ ((At.new _ _ hsm1 _ (by simp)).alloc _ (by simp))).mono ?_
  rintro e w' ⟨rfl, rfl⟩
  go_wp2_with fail
  go_region_held3 (fun w' => w'.cell? ⟨w.heap.size + 1 + 1, 1, none⟩ = some (.int .i64 (-v))) ((go_simp; done)) ((go_at_call 10; refine (name_ok _ txt2 ab2 X hn2 hst _ (((At.new _ _ hsm2 _ (by simp)).alloc _ (by simp)).drew)).mono ?_; rintro e w' ⟨rfl, rfl⟩))
  go_wp2_with fail
  go_region_held3 (fun w' => w'.cell? ⟨0, 0, none⟩ = some (.string (strB [77])) ∧ w'.cell? ⟨0, 1, none⟩ = some (.int .i64 0) ∧ w'.cell? ⟨0, 2, none⟩ = some (.int .i64 2) ∧ w'.cell? ⟨0, 3, none⟩ = some (.int .i64 3) ∧ w'.cell? ⟨0, 4, none⟩ = some (.int .i64 7200) ∧
    w'.cell? ⟨1, 0, none⟩ = some (.string (strB [77])) ∧ w'.cell? ⟨1, 1, none⟩ = some (.int .i64 0) ∧ w'.cell? ⟨1, 2, none⟩ = some (.int .i64 1) ∧ w'.cell? ⟨1, 3, none⟩ = some (.int .i64 11) ∧ w'.cell? ⟨1, 4, none⟩ = some (.int .i64 7200)) ((go_simp; done)) (fail)
  go_wp2_with (first | (refine wpList_load_row rfl 36 (.tmp 5) rfl _ rfl 36 _ (0, 0) _ (heap_top _ _ _ (by simp)) Ybad.underlying36 rfl info36 ?_) | (refine wpList_store_row rfl 36 (.tmp 2) _ rfl _ _ rfl rfl 36 _ ((heap_past _ _ _ (by simp; omega)).trans ((heap_past _ _ _ (by simp)).trans (heap_top _ _ _ rfl))) info36 rfl (all_one rfl) ?_; rw [setRow_drew, setRow_drew, setRow_past _ _ _ _ (by simp; omega), setRow_past _ _ _ _ (by simp), setRow_top _ _ _ _ _ rfl]))
  exact bodyPost_ret (results_row_tmp rfl _ _ _ 36 _ (0, 0) _ _ rfl rfl ((heap_past _ _ _ (by simp; omega)).trans ((heap_past _ _ _ (by simp)).trans (heap_top _ _ _ rfl))) Ybad.underlying36 rfl info36) rfl ⟨rfl, ((((Below.refl _ _).alloc (Nat.le_refl _) _).alloc (by simp) _).alloc (by simp; omega) _).drew.drew⟩
end Go.Proofs.YbulkbdvcDoor.W
