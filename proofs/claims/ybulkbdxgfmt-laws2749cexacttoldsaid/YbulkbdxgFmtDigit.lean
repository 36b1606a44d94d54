/-
  setField over the four words of one number; WithDigit.
-/
import Derived.Test.YbulkbdxgFmtField
import Derived.Deep.RegionHeld3
import Derived.Deep.MidRow
import Derived.Deep.Draws
namespace Go.Proofs.YbulkbdxgFmt.W
open Go.RowKit
open Go.Proofs.YbulkbdxgFmt.P

def idC (N : Nat) : Array Value := #[.int .u64 (wd N 0), .int .u64 (wd N 1), .int .u64 (wd N 2), .int .u64 (wd N 3)]

theorem idC_get (N i : Nat) (hi : i < 4) : (idC N)[i]? = some (.int .u64 (wd N i)) := by
  have : i = 0 ∨ i = 1 ∨ i = 2 ∨ i = 3 := by omega
  rcases this with rfl | rfl | rfl | rfl <;> rfl

theorem idC_set (N M i : Nat) (hi : i < 4) (h : ∀ j, j < 4 → j ≠ i → wd M j = wd N j) : (idC N).setIfInBounds i (.int .u64 (wd M i)) = idC M := by
  have : i = 0 ∨ i = 1 ∨ i = 2 ∨ i = 3 := by omega
  unfold idC
  rcases this with rfl | rfl | rfl | rfl
  · rw [h 1 (by decide) (by decide), h 2 (by decide) (by decide), h 3 (by decide) (by decide)]; rfl
  · rw [h 0 (by decide) (by decide), h 2 (by decide) (by decide), h 3 (by decide) (by decide)]; rfl
  · rw [h 0 (by decide) (by decide), h 1 (by decide) (by decide), h 3 (by decide) (by decide)]; rfl
  · rw [h 0 (by decide) (by decide), h 1 (by decide) (by decide), h 2 (by decide) (by decide)]; rfl

theorem idC_set2 (N M i : Nat) (hi : i < 3) (h : ∀ j, j < 4 → j ≠ i → j ≠ i + 1 → wd M j = wd N j) : ((idC N).setIfInBounds i (.int .u64 (wd M i))).setIfInBounds (i + 1) (.int .u64 (wd M (i + 1))) = idC M := by
  have : i = 0 ∨ i = 1 ∨ i = 2 := by omega
  unfold idC
  rcases this with rfl | rfl | rfl
  · rw [h 2 (by decide) (by decide) (by decide), h 3 (by decide) (by decide) (by decide)]; rfl
  · rw [h 0 (by decide) (by decide) (by decide), h 3 (by decide) (by decide) (by decide)]; rfl
  · rw [h 0 (by decide) (by decide) (by decide), h 1 (by decide) (by decide) (by decide)]; rfl

theorem row_cell {w : World} {B i : Nat} {cs : Array Value} {t : TypeId} {fr : Nat × Nat} (h : w.heap[B]? = some (.cells cs t fr)) : w.cell? ⟨B, i, none⟩ = cs[i]? := by
  simp [World.cell?, h]
theorem row_free {w : World} {B i : Nat} {cs : Array Value} {t : TypeId} (h : w.heap[B]? = some (.cells cs t (0, 0))) : w.frozen? ⟨B, i, none⟩ = false := by
  simp [World.frozen?, h]

/-- 'setField' on a field whose bits are not set yet. -/
theorem field_any (B low d v N : Nat) (hd : 1 ≤ d) (hd4 : d ≤ 4) (hal : low % d = 0) (hin : low + d ≤ 256) (hv : v < 2 ^ d) (hN : ∀ b, b < low + d → N.testBit b = false) (w : World)
    (hb : w.heap[B]? = some (.cells (idC N) 28 (0, 0))) :
    Calls Ybaf.prog 17 #[.pointer (some ⟨B, 0, none⟩), .int .i64 low, .int .i64 d, .int .u64 v] w fun e w' => e = .returned (.tuple #[]) ∧ ∃ n, w' = (w.setRow B (idC (put N v low))).drewN n := by
  have hv16 : v < 16 := Nat.lt_of_lt_of_le hv (Nat.pow_le_pow_right (n := 2) (by decide) hd4)
  have hl : low = 64 * (low / 64) + low % 64 := by omega
  have hi : low / 64 < 4 := by omega
  have hc : w.cell? ⟨B, low / 64, none⟩ = some (.int .u64 (wd N (low / 64))) := (row_cell hb).trans (idC_get _ _ hi)
  by_cases hs : low % 64 + d ≤ 64
  · refine (field_one B low d v (low / 64) (low % 64) (wd N (low / 64)) hd hd4 hl (by omega) hi hs (wd_lt _ _) w hc (row_free hb)).mono ?_
    rintro e w' ⟨rfl, rfl⟩
    refine ⟨rfl, 1, ?_⟩
    rw [setCell_eq_setRow w B _ _ 28 (0, 0) _ hb, field_lo N v d low _ _ hl hN _ rfl, idC_set N _ _ hi]
    · rfl
    · intro j hj hji
      rcases Nat.lt_or_ge j (low / 64) with h | h
      · exact field_else N v d low _ _ j hl hv (Or.inl h)
      · exact field_else N v d low _ _ j hl hv (Or.inr (by omega))
  · have h3 : d = 3 := by
      have : d = 1 ∨ d = 2 ∨ d = 3 ∨ d = 4 := by omega
      rcases this with rfl | rfl | rfl | rfl <;> omega
    have hi3 : low / 64 < 3 := by omega
    have hc1 : w.cell? ⟨B, low / 64 + 1, none⟩ = some (.int .u64 (wd N (low / 64 + 1))) := (row_cell hb).trans (idC_get _ _ (by omega))
    refine (field_two B low d v (low / 64) (low % 64) (wd N (low / 64)) (wd N (low / 64 + 1)) h3 hl (by omega) hi3 (by omega) hv16 (wd_lt _ _) (wd_lt _ _) w hc (row_free hb) hc1 (row_free hb)).mono ?_
    rintro e w' ⟨rfl, rfl⟩
    refine ⟨rfl, 2, ?_⟩
    have hb1 : ((w.setRow B ((idC N).setIfInBounds (low / 64) (.int .u64 (wd (put N v low) (low / 64))))).drew).heap[B]? = some (.cells ((idC N).setIfInBounds (low / 64) (.int .u64 (wd (put N v low) (low / 64)))) 28 (0, 0)) := setRow_heap w B _ _ 28 (0, 0) hb
    rw [setCell_eq_setRow w B _ _ 28 (0, 0) _ hb, field_lo N v d low _ _ hl hN _ rfl, field_hi N v d low _ _ hl (by omega) hv (by omega) hN _ rfl, setCell_eq_setRow _ B _ _ 28 (0, 0) _ hb1]
    have : ∀ (W : World) (c : Array Value), (W.drew).setRow B c = (W.setRow B c).drew := fun _ _ => rfl
    rw [this, setRow_setRow, idC_set2 N _ _ hi3]
    · rfl
    · intro j hj hji hji1
      rcases Nat.lt_or_ge j (low / 64) with h | h
      · exact field_else N v d low _ _ j hl hv (Or.inl h)
      · exact field_else N v d low _ _ j hl hv (Or.inr (by omega))
end Go.Proofs.YbulkbdxgFmt.W
