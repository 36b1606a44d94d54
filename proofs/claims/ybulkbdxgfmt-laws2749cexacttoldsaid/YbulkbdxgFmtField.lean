/-
  setField.
-/
import Derived.Test.YbulkbdxgFmtSmall
import Derived.BigRegion
namespace Go.Proofs.YbulkbdxgFmt.W
open Go.RowKit
open Go.Proofs.YbulkbdxgFmt.P

theorem wrap_nat (a : Nat) : IntKind.u64.wrap (a : Int) = ((a % 18446744073709551616 : Nat) : Int) := by rw [IntKind.wrap_u64]; simp

/-- The lower word, as the walk leaves it. -/
theorem lo_val (x m v sh : Nat) (hx : x < 18446744073709551616) : bits .or .u64 (bits .andNot .u64 (x : Int) (IntKind.u64.wrap ((m : Int) * 2 ^ sh))) (IntKind.u64.wrap ((v : Int) * 2 ^ sh)) =
    (((x &&& (18446744073709551615 - m * 2 ^ sh % 18446744073709551616)) ||| (v * 2 ^ sh % 18446744073709551616) : Nat) : Int) := by
  have e1 : (m : Int) * 2 ^ sh = ((m * 2 ^ sh : Nat) : Int) := by simp
  have e2 : (v : Int) * 2 ^ sh = ((v * 2 ^ sh : Nat) : Int) := by simp
  rw [e1, e2, wrap_nat, wrap_nat, u64_andNot_nat _ _ hx (Nat.mod_lt _ (by decide)), u64_or_nat _ _ (Nat.lt_of_le_of_lt Nat.and_le_left hx) (Nat.mod_lt _ (by decide))]

/-- The upper word. -/
theorem hi_val (x m v k : Nat) (hx : x < 18446744073709551616) (hm : m < 16) (hv : v < 16) : bits .or .u64 (bits .andNot .u64 (x : Int) ((m : Int) / 2 ^ k)) ((v : Int) / 2 ^ k) =
    (((x &&& (18446744073709551615 - m / 2 ^ k)) ||| (v / 2 ^ k) : Nat) : Int) := by
  have e1 : (m : Int) / 2 ^ k = ((m / 2 ^ k : Nat) : Int) := by simp
  have e2 : (v : Int) / 2 ^ k = ((v / 2 ^ k : Nat) : Int) := by simp
  have l1 : m / 2 ^ k ≤ m := Nat.div_le_self _ _
  have l2 : v / 2 ^ k ≤ v := Nat.div_le_self _ _
  rw [e1, e2, u64_andNot_nat _ _ hx (by omega), u64_or_nat _ _ (Nat.lt_of_le_of_lt Nat.and_le_left hx) (by omega)]

set_option maxHeartbeats 1000000 in
theorem field_one (B : Nat) (low d v i sh x : Nat) (hd : 1 ≤ d) (hd4 : d ≤ 4) (hlow : low = 64 * i + sh) (hsh : sh < 64) (hi : i < 4) (hfit : sh + d ≤ 64) (hx : x < 18446744073709551616) (w : World)
    (hc : w.cell? ⟨B, i, none⟩ = some (.int .u64 x)) (hf : w.frozen? ⟨B, i, none⟩ = false) :
    Calls Ybaf.prog 17 #[.pointer (some ⟨B, 0, none⟩), .int .i64 low, .int .i64 d, .int .u64 v] w fun e w' => e = .returned (.tuple #[]) ∧
      w' = (w.setCell ⟨B, i, none⟩ (.int .u64 (((x &&& (18446744073709551615 - (2 ^ d - 1) * 2 ^ sh % 18446744073709551616)) ||| (v * 2 ^ sh % 18446744073709551616) : Nat) : Int))).drew := by
  have e1 : (low : Int) / 64 = i := by omega
  have e2 : (low : Int) % 64 = sh := by omega
  have l0 : (0 : Int) ≤ low := by omega
  have l1 : (low : Int) < 256 := by omega
  clear hlow
  generalize (low : Int) = L at *
  have hc4 : d = 1 ∨ d = 2 ∨ d = 3 ∨ d = 4 := by omega
  rcases hc4 with rfl | rfl | rfl | rfl
  · rw [show (2 ^ 1 - 1 : Nat) = 1 from rfl, ← lo_val x 1 v sh hx]
    go_enter Ybaf.func17, Ybaf.ntmps17
    go_wp2
    go_region
    go_wp2
    go_end0
    exact ⟨rfl, by simp⟩
  · rw [show (2 ^ 2 - 1 : Nat) = 3 from rfl, ← lo_val x 3 v sh hx]
    go_enter Ybaf.func17, Ybaf.ntmps17
    go_wp2
    go_region
    go_wp2
    go_end0
    exact ⟨rfl, rfl⟩
  · rw [show (2 ^ 3 - 1 : Nat) = 7 from rfl, ← lo_val x 7 v sh hx]
    go_enter Ybaf.func17, Ybaf.ntmps17
    go_wp2
    go_region
    go_wp2
    go_end0
    exact ⟨rfl, rfl⟩
  · rw [show (2 ^ 4 - 1 : Nat) = 15 from rfl, ← lo_val x 15 v sh hx]
    go_enter Ybaf.func17, Ybaf.ntmps17
    go_wp2
    go_region
    go_wp2
    go_end0
    exact ⟨rfl, rfl⟩

set_option maxHeartbeats 1000000 in
theorem field_two (B : Nat) (low d v i sh x y : Nat) (hd : d = 3) (hlow : low = 64 * i + sh) (hsh : sh < 64) (hi : i < 3) (hfit : 64 < sh + d) (hv : v < 16) (hx : x < 18446744073709551616) (hy : y < 18446744073709551616) (w : World)
    (hc : w.cell? ⟨B, i, none⟩ = some (.int .u64 x)) (hf : w.frozen? ⟨B, i, none⟩ = false) (hc1 : w.cell? ⟨B, i + 1, none⟩ = some (.int .u64 y)) (hf1 : w.frozen? ⟨B, i + 1, none⟩ = false) :
    Calls Ybaf.prog 17 #[.pointer (some ⟨B, 0, none⟩), .int .i64 low, .int .i64 d, .int .u64 v] w fun e w' => e = .returned (.tuple #[]) ∧
      w' = (((w.setCell ⟨B, i, none⟩ (.int .u64 (((x &&& (18446744073709551615 - (2 ^ d - 1) * 2 ^ sh % 18446744073709551616)) ||| (v * 2 ^ sh % 18446744073709551616) : Nat) : Int))).drew).setCell ⟨B, i + 1, none⟩
        (.int .u64 (((y &&& (18446744073709551615 - (2 ^ d - 1) / 2 ^ (64 - sh))) ||| (v / 2 ^ (64 - sh)) : Nat) : Int))).drew := by
  have e1 : (low : Int) / 64 = i := by omega
  have e2 : (low : Int) % 64 = sh := by omega
  have l0 : (0 : Int) ≤ low := by omega
  have l1 : (low : Int) < 256 := by omega
  clear hlow
  generalize (low : Int) = L at *
  subst hd
  rw [show (2 ^ 3 - 1 : Nat) = 7 from rfl, ← lo_val x 7 v sh hx, ← hi_val y 7 v (64 - sh) hy (by decide) hv]
  have e3 : (64 - (sh : Int)).toNat = 64 - sh := by omega
  go_enter Ybaf.func17, Ybaf.ntmps17
  go_wp2
  go_region
  go_wp2
  go_region
  go_wp2
  go_end0
  exact ⟨rfl, rfl⟩
end Go.Proofs.YbulkbdxgFmt.W
