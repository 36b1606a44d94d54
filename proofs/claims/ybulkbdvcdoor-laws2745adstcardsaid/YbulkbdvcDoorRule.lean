import Derived.Test.YbulkbdvcDoorName
import Derived.Test.YbulkbdvcDoorOffset
import Derived.Test.YbulkbdvcDoorMem
namespace Go.Proofs.YbulkbdvcDoor.W
open Go.RowKit
open Go.Proofs.YbulkbdvcDoor.P Go.Proofs.YbulkbdvcDoor.B

/-- txt writes the abbreviation ab: in angle brackets, or three capital letters or more. -/
def Name (txt ab : List UInt8) : Prop :=
  (txt = 60 :: (ab ++ [62]) ∧ ∀ c ∈ ab, c ≠ 62) ∨ (txt = ab ∧ 3 ≤ ab.length ∧ ∀ c ∈ ab, 65 ≤ c.toNat ∧ c.toNat ≤ 90)

def Stops (l : List UInt8) : Prop := ∀ c, l.head? = some c → stopB c = true

theorem letter_go {c : UInt8} (h : 65 ≤ c.toNat ∧ c.toNat ≤ 90) : stopB c = false ∧ c ≠ 60 := by
  refine ⟨?_, ?_⟩
  · unfold stopB digB
    simp only [Bool.or_eq_false_iff, decide_eq_false_iff_not, beq_eq_false_iff_ne]
    refine ⟨⟨⟨by omega, ?_⟩, ?_⟩, ?_⟩ <;> intro e <;> subst e <;> simp at h
  · intro e; subst e; simp at h

/-- 'name'. -/
theorem name_ok (b : Nat) (txt ab rest : List UInt8) (hn : Name txt ab) (hr : Stops rest) (w : World) (h : At w b (txt ++ rest)) :
    Calls Ybad.prog 10 #[.pointer (some ⟨b, 0, none⟩)] w fun e w' => e = .returned (.string (strB ab)) ∧ w' = w.setCell ⟨b, 0, none⟩ (.string (strB rest)) := by
  rcases hn with ⟨rfl, hin⟩ | ⟨rfl, h3, hin⟩
  · exact name_angle b ab rest hin w (by simpa using h)
  · exact name_plain b _ rest h3 (fun c hc => letter_go (hin c hc)) hr w h

theorem off_stops {l : List UInt8} {v : Int} (h : Off l v) (rest : List UInt8) : Stops (l ++ rest) := by
  obtain ⟨sg, H, n, tl, sec, rfl, hH, _, _, hsg⟩ := h
  have hd : ∀ c, (H ++ tl ++ rest).head? = some c → stopB c = true := by
    intro c hc
    cases H with
    | nil => exact absurd rfl hH.ne
    | cons x r =>
      simp at hc
      subst hc
      have := hH.dig x (by simp)
      unfold stopB digB
      simp [this]
  intro c hc
  rcases hsg with ⟨rfl, _⟩ | ⟨rfl, _⟩ | ⟨rfl, _⟩
  · exact hd c (by simpa using hc)
  · simp at hc; subst hc; rfl
  · simp at hc; subst hc; rfl

theorem off_bound {l : List UInt8} {v : Int} (h : Off l v) : -604799 ≤ v ∧ v ≤ 604799 := by
  obtain ⟨sg, H, n, tl, sec, _, _, hn, ht, hsg⟩ := h
  have hs : 0 ≤ sec ∧ sec ≤ 604799 := by
    rcases ht with ⟨_, rfl⟩ | ⟨M, m, _, _, hm, rfl⟩ | ⟨M, m, S, s, _, _, hm, _, hs, rfl⟩ <;> omega
  rcases hsg with ⟨_, rfl⟩ | ⟨_, rfl⟩ | ⟨_, rfl⟩ <;> omega

theorem At.new (w : World) (l : List UInt8) (h : l.length ≤ 1000000) (n : Nat) (hn : n = w.heap.size) : At (w.alloc (.cells #[.string (strB l), .bool false] 47)) n l :=
  ⟨by rw [World.cell?_alloc_at _ _ _ _ hn]; rfl, by rw [World.cell?_alloc_at _ _ _ _ hn]; rfl, by rw [World.frozen?_alloc_at _ _ _ _ hn], h⟩

theorem At.alloc {w : World} {b : Nat} {l : List UInt8} (h : At w b l) (o : Obj) (hb : b < w.heap.size) : At (w.alloc o) b l :=
  ⟨by rw [World.cell?_alloc_past _ _ _ hb, h.text], by rw [World.cell?_alloc_past _ _ _ hb, h.good], by rw [World.frozen?_alloc_past _ _ _ hb, h.free], h.small⟩

/-- The rule of a standard time alone. -/
def stdRule (ab : List UInt8) (v : Int) : Array Value := #[.string (strB ab), .int .i64 (-v), .bool false, .string (ByteArray.mk #[]), .int .i64 0, .bool false, .bool false,
  .string (ByteArray.mk #[]), .int .i64 0, .int .i64 0, .int .i64 0, .int .i64 0, .string (ByteArray.mk #[]), .int .i64 0, .int .i64 0, .int .i64 0, .int .i64 0]

theorem empty_end : (strB []).toList.isEmpty = true := by rw [ByteArray.toList_eq]; rfl

set_option maxRecDepth 100000 in
set_option maxHeartbeats 1000000 in
theorem rule_std (txt ab O rest : List UInt8) (v : Int) (hn : Name txt ab) (hO : Off O v) (hsm : (txt ++ (O ++ rest)).length ≤ 1000000) (hrest : rest = [] ∨ ∃ tl, rest = 44 :: tl) (w : World) :
    Calls Ybad.prog 7 #[.string (strB (txt ++ (O ++ rest)))] w fun e w' => e = .returned (.tuple #[.agg (stdRule ab v), .bool true]) ∧ Below w.heap.size w w' := by
  have hsm1 : (O ++ rest).length ≤ 1000000 := by rw [List.length_append] at hsm; omega
  have hsm2 : rest.length ≤ 1000000 := by rw [List.length_append] at hsm1; omega
  obtain ⟨hv1, hv2⟩ := off_bound hO
  have hnd : NoDig rest := by
    rcases hrest with rfl | ⟨tl, rfl⟩
    · intro c hc; simp at hc
    · exact noDig_cons 44 _ rfl
  have hnc : NoC 58 rest := by
    rcases hrest with rfl | ⟨tl, rfl⟩
    · intro c hc; simp at hc
    · intro c hc; simp at hc; subst hc; decide
  go_enter Ybad.func7, Ybad.ntmps7
  go_wp2_with fail
  refine (name_ok _ txt ab (O ++ rest) hn (off_stops hO rest) _ ((At.new _ _ hsm _ (by simp)).alloc _ (by simp))).mono ?_
  rintro e w' ⟨rfl, rfl⟩
  go_wp2_with fail
  refine (offset_ok _ O rest v hO hnd hnc _ ((At.new _ _ hsm1 _ (by simp)).alloc _ (by simp))).mono ?_
  rintro e w' ⟨rfl, rfl⟩
  rcases hrest with rfl | ⟨tl, rfl⟩
  · have he := empty_end
    go_wp2_with (first | (refine wpList_load_row rfl 36 _ rfl _ rfl 36 _ (0, 0) _ (heap_top _ _ _ (by simp)) Ybad.underlying36 rfl info36 ?_) | (refine wpList_store_row rfl 36 _ _ rfl _ _ rfl rfl 36 _ ((heap_past _ _ _ (by simp; omega)).trans ((heap_past _ _ _ (by simp)).trans (heap_top _ _ _ rfl))) info36 rfl (all_one rfl) ?_; rw [setRow_past _ _ _ _ (by simp; omega), setRow_past _ _ _ _ (by simp), setRow_top _ _ _ _ _ rfl]))
    exact bodyPost_ret (results_row_tmp rfl _ _ _ 36 _ (0, 0) _ _ rfl rfl ((heap_past _ _ _ (by simp; omega)).trans ((heap_past _ _ _ (by simp)).trans (heap_top _ _ _ rfl))) Ybad.underlying36 rfl info36) rfl ⟨rfl, (((Below.refl _ _).alloc (Nat.le_refl _) _).alloc (by simp) _).alloc (by simp; omega) _⟩
  · have hp : 0 < (strB (44 :: tl)).size := by rw [strB_size]; simp
    have hne := nonempty hp
    have h44 : (((strB (44 :: tl))[0]'hp).toNat : Int) == 44 := rfl
    generalize strB (44 :: tl) = R at *
    go_wp2_with (first | (refine wpList_load_row rfl 36 _ rfl _ rfl 36 _ (0, 0) _ (heap_top _ _ _ (by simp)) Ybad.underlying36 rfl info36 ?_) | (refine wpList_store_row rfl 36 _ _ rfl _ _ rfl rfl 36 _ ((heap_past _ _ _ (by simp; omega)).trans ((heap_past _ _ _ (by simp)).trans (heap_top _ _ _ rfl))) info36 rfl (all_one rfl) ?_; rw [setRow_past _ _ _ _ (by simp; omega), setRow_past _ _ _ _ (by simp), setRow_top _ _ _ _ _ rfl]))
    exact bodyPost_ret (results_row_tmp rfl _ _ _ 36 _ (0, 0) _ _ rfl rfl ((heap_past _ _ _ (by simp; omega)).trans ((heap_past _ _ _ (by simp)).trans (heap_top _ _ _ rfl))) Ybad.underlying36 rfl info36) rfl ⟨rfl, (((Below.refl _ _).alloc (Nat.le_refl _) _).alloc (by simp) _).alloc (by simp; omega) _⟩
end Go.Proofs.YbulkbdvcDoor.W
