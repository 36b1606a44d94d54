/-
  zzs2749cval.
-/
import Derived.Test.YbulkbdxgFmtUint
namespace Go.Proofs.YbulkbdxgFmt.W
open Go.RowKit
open Go.Proofs.YbulkbdxgFmt.P

set_option maxRecDepth 100000 in
set_option maxHeartbeats 1000000 in
theorem val_any (c v : Nat) (hc : c < 256) (hv : dval c = v) (w : World) :
    Calls Ybaf.prog 6 #[.int .u8 c] w fun e w' => e = .returned (.int .i64 v) ∧ w' = w := by
  unfold dval at hv
  by_cases h1 : c < 48
  · have e : v = 99 := by
      rw [if_neg (by omega), if_neg (by omega), if_neg (by omega)] at hv; exact hv.symm
    subst e
    clear hv
    go_enter Ybaf.func6, Ybaf.ntmps6
    go_wp2
    go_ret
    exact ⟨rfl, rfl⟩
  by_cases h2 : c ≤ 57
  · have e : c - 48 = v := by rw [if_pos (by omega)] at hv; exact hv
    have e' : (c : Int) - 48 = v := by omega
    clear hv
    go_enter Ybaf.func6, Ybaf.ntmps6
    go_wp2
    go_ret
    exact ⟨by simp, rfl⟩
  by_cases h3 : c < 65
  · have e : v = 99 := by
      rw [if_neg (by omega), if_neg (by omega), if_neg (by omega)] at hv; exact hv.symm
    subst e
    clear hv
    go_enter Ybaf.func6, Ybaf.ntmps6
    go_wp2
    go_ret
    exact ⟨rfl, rfl⟩
  by_cases h4 : c ≤ 90
  · have e : c - 55 = v := by rw [if_neg (by omega), if_neg (by omega), if_pos (by omega)] at hv; exact hv
    have e' : (c : Int) - 65 + 10 = v := by omega
    clear hv
    go_enter Ybaf.func6, Ybaf.ntmps6
    go_wp2
    go_ret
    exact ⟨by simp, rfl⟩
  by_cases h5 : c < 97
  · have e : v = 99 := by
      rw [if_neg (by omega), if_neg (by omega), if_neg (by omega)] at hv; exact hv.symm
    subst e
    clear hv
    go_enter Ybaf.func6, Ybaf.ntmps6
    go_wp2
    go_ret
    exact ⟨rfl, rfl⟩
  by_cases h6 : c ≤ 122
  · have e : c - 87 = v := by rw [if_neg (by omega), if_pos (by omega)] at hv; exact hv
    have e' : (c : Int) - 97 + 10 = v := by omega
    clear hv
    go_enter Ybaf.func6, Ybaf.ntmps6
    go_wp2
    go_ret
    exact ⟨by simp, rfl⟩
  · have e : v = 99 := by
      rw [if_neg (by omega), if_neg (by omega), if_neg (by omega)] at hv; exact hv.symm
    subst e
    clear hv
    go_enter Ybaf.func6, Ybaf.ntmps6
    go_wp2
    go_ret
    exact ⟨rfl, rfl⟩
end Go.Proofs.YbulkbdxgFmt.W
