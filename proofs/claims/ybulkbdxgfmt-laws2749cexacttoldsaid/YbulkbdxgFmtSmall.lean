/-
  The small functions: Digits, Base, digitLow, lower.
-/
import Derived.Test.YbulkbdxgFmtProg
import Derived.Test.YbulkbdxgFmtPlain
import Derived.WalkKit
namespace Go.Proofs.YbulkbdxgFmt.W
open Go.RowKit
open Go.Proofs.YbulkbdxgFmt.P

def spaceC (W d : Int) : Array Value := #[.int .i64 W, .int .i64 d]

set_option maxHeartbeats 400000 in
theorem digits_any (W d : Int) (hd : 1 ≤ d) (hd4 : d ≤ 4) (h0 : 0 ≤ W) (h1 : W ≤ 256) (w : World) :
    Calls Ybaf.prog 8 #[.agg (spaceC W d)] w fun e w' => e = .returned (.int .i64 (W / d)) ∧ w' = w.alloc (.cells (spaceC W d) 24) := by
  unfold spaceC
  go_enter Ybaf.func8, Ybaf.ntmps8
  go_wp2
  go_ret
  exact ⟨rfl, rfl⟩

/-- B is the base of digits of d bits. -/
def IsBase (d B : Int) : Prop := (d = 1 ∧ B = 2) ∨ (d = 2 ∧ B = 4) ∨ (d = 3 ∧ B = 8) ∨ (d = 4 ∧ B = 16)

set_option maxHeartbeats 400000 in
theorem base_any (W d B : Int) (hB : IsBase d B) (w : World) :
    Calls Ybaf.prog 10 #[.agg (spaceC W d)] w fun e w' => e = .returned (.int .i64 B) ∧ w' = w.alloc (.cells (spaceC W d) 24) := by
  unfold spaceC
  rcases hB with ⟨rfl, rfl⟩ | ⟨rfl, rfl⟩ | ⟨rfl, rfl⟩ | ⟨rfl, rfl⟩
  all_goals
    go_enter Ybaf.func10, Ybaf.ntmps10
    go_wp2
    go_ret
    exact ⟨rfl, rfl⟩

set_option maxHeartbeats 400000 in
theorem low_any (W d p : Int) (hd : 1 ≤ d) (hd4 : d ≤ 4) (h0 : 0 ≤ W) (h1 : W ≤ 256) (hp : 0 ≤ p) (hp1 : p ≤ 256) (hl : 0 ≤ W - (p + 1) * d) (w : World) :
    Calls Ybaf.prog 18 #[.agg (spaceC W d), .int .i64 p] w fun e w' => e = .returned (.int .i64 (W - (p + 1) * d)) ∧ w' = w.alloc (.cells (spaceC W d) 24) := by
  unfold spaceC
  have hc : d = 1 ∨ d = 2 ∨ d = 3 ∨ d = 4 := by omega
  rcases hc with rfl | rfl | rfl | rfl
  all_goals
    go_enter Ybaf.func18, Ybaf.ntmps18
    go_wp2
    go_ret
    first | exact ⟨rfl, rfl⟩ | exact ⟨by simp, rfl⟩

set_option maxHeartbeats 400000 in
theorem lower_any (c : Nat) (hc : c < 256) (w : World) :
    Calls Ybaf.prog 19 #[.int .u8 c] w fun e w' => e = .returned (.int .u8 ((c ||| 32 : Nat) : Int)) ∧ w' = w := by
  have h : bits .or .u8 (c : Int) 32 = ((c ||| 32 : Nat) : Int) := u8_or_nat c 32 hc (by decide)
  go_enter Ybaf.func19, Ybaf.ntmps19
  go_wp2
  go_ret
  refine ⟨?_, rfl⟩
  simp
end Go.Proofs.YbulkbdxgFmt.W
