/-
  internal/strconv.ParseUint at a text of one byte that is no digit of the base.
-/
import Derived.Test.YbulkbdxgFmtUintL
namespace Go.Proofs.YbulkbdxgFmt.W
open Go.RowKit
open Go.Proofs.YbulkbdxgFmt.P

set_option maxRecDepth 100000 in
set_option maxHeartbeats 1000000 in
theorem uintB_digit (s : ByteArray) (c : Nat) (B d : Int) (hB : IsBase d B) (hsz : s.size = 1) (h0 : (s.data.toList.getD 0 0).toNat = c) (h1 : 48 ≤ c) (h2 : c ≤ 57) (hge : B ≤ (c : Int) - 48) (w : World) :
    Calls Ybaf.prog 15 #[.string s, .int .i64 B, .int .i64 8] w fun e w' => e = .returned (.tuple #[.int .u64 0, .iface 54 (.int .i64 2)]) ∧ Below w.heap.size w w' := by
  obtain ⟨W1, cap, hcv, hcell, HB⟩ := conv_one s c hsz h0 w
  have hne := nonempty (s := s) (by omega)
  clear h0
  rcases hB with ⟨rfl, rfl⟩ | ⟨rfl, rfl⟩ | ⟨rfl, rfl⟩ | ⟨rfl, rfl⟩
  case inr.inr.inr => omega
  all_goals
    go_enter Ybaf.func15, Ybaf.ntmps15
    go_wp2
    refine wp_loop_rounds 2 ?_
    rw [rounds_succ]
    go_wp2_with fail
    go_ret2
    exact ⟨rfl, HB.out⟩

set_option maxRecDepth 100000 in
set_option maxHeartbeats 1000000 in
theorem uintB_letter (s : ByteArray) (c lc : Nat) (B d : Int) (hB : IsBase d B) (hlc : c ||| 32 = lc) (hsz : s.size = 1) (h0 : (s.data.toList.getD 0 0).toNat = c) (hc1 : 65 ≤ c) (hc2 : c ≤ 122) (h95 : c ≠ 95) (h1 : 97 ≤ lc) (h2 : lc ≤ 122) (hge : B ≤ (lc : Int) - 87) (w : World) :
    Calls Ybaf.prog 15 #[.string s, .int .i64 B, .int .i64 8] w fun e w' => e = .returned (.tuple #[.int .u64 0, .iface 54 (.int .i64 2)]) ∧ Below w.heap.size w w' := by
  obtain ⟨W1, cap, hcv, hcell, HB⟩ := conv_one s c hsz h0 w
  have hne := nonempty (s := s) (by omega)
  have HL := hide hlc
  clear h0 hlc
  rcases hB with ⟨rfl, rfl⟩ | ⟨rfl, rfl⟩ | ⟨rfl, rfl⟩ | ⟨rfl, rfl⟩
  all_goals
    go_enter Ybaf.func15, Ybaf.ntmps15
    go_wp2
    refine wp_loop_rounds 2 ?_
    rw [rounds_succ]
    go_wp2_with fail
    refine (lower_s c lc HL.out (by omega) _).mono ?_
    rintro e w' ⟨rfl, rfl⟩
    go_wp2_with fail
    refine (lower_s c lc HL.out (by omega) _).mono ?_
    rintro e w' ⟨rfl, rfl⟩
    go_wp2_with fail
    refine (lower_s c lc HL.out (by omega) _).mono ?_
    rintro e w' ⟨rfl, rfl⟩
    go_wp2
    go_ret2
    exact ⟨rfl, HB.out⟩

set_option maxRecDepth 100000 in
set_option maxHeartbeats 1000000 in
theorem uintB_under (s : ByteArray) (c lc : Nat) (B d : Int) (hB : IsBase d B) (hlc : c ||| 32 = lc) (hsz : s.size = 1) (h0 : (s.data.toList.getD 0 0).toNat = c) (hc : c < 48 ∨ 57 < c) (hc2 : c < 256) (h95 : c ≠ 95) (h1 : lc < 97) (w : World) :
    Calls Ybaf.prog 15 #[.string s, .int .i64 B, .int .i64 8] w fun e w' => e = .returned (.tuple #[.int .u64 0, .iface 54 (.int .i64 2)]) ∧ Below w.heap.size w w' := by
  obtain ⟨W1, cap, hcv, hcell, HB⟩ := conv_one s c hsz h0 w
  have hne := nonempty (s := s) (by omega)
  have HL := hide hlc
  clear h0 hlc
  rcases hB with ⟨rfl, rfl⟩ | ⟨rfl, rfl⟩ | ⟨rfl, rfl⟩ | ⟨rfl, rfl⟩
  all_goals
    rcases hc with hc | hc
    all_goals
      go_enter Ybaf.func15, Ybaf.ntmps15
      go_wp2
      refine wp_loop_rounds 2 ?_
      rw [rounds_succ]
      go_wp2_with fail
      refine (lower_s c lc HL.out hc2 _).mono ?_
      rintro e w' ⟨rfl, rfl⟩
      go_wp2_with fail
      go_ret2
      exact ⟨rfl, HB.out⟩

set_option maxRecDepth 100000 in
set_option maxHeartbeats 1000000 in
theorem uintB_over (s : ByteArray) (c lc : Nat) (B d : Int) (hB : IsBase d B) (hlc : c ||| 32 = lc) (hsz : s.size = 1) (h0 : (s.data.toList.getD 0 0).toNat = c) (hc : 57 < c) (hc2 : c < 256) (h95 : c ≠ 95) (h1 : 122 < lc) (h2 : lc < 256) (w : World) :
    Calls Ybaf.prog 15 #[.string s, .int .i64 B, .int .i64 8] w fun e w' => e = .returned (.tuple #[.int .u64 0, .iface 54 (.int .i64 2)]) ∧ Below w.heap.size w w' := by
  obtain ⟨W1, cap, hcv, hcell, HB⟩ := conv_one s c hsz h0 w
  have hne := nonempty (s := s) (by omega)
  have HL := hide hlc
  clear h0 hlc
  rcases hB with ⟨rfl, rfl⟩ | ⟨rfl, rfl⟩ | ⟨rfl, rfl⟩ | ⟨rfl, rfl⟩
  all_goals
    go_enter Ybaf.func15, Ybaf.ntmps15
    go_wp2
    refine wp_loop_rounds 2 ?_
    rw [rounds_succ]
    go_wp2_with fail
    refine (lower_s c lc HL.out hc2 _).mono ?_
    rintro e w' ⟨rfl, rfl⟩
    go_wp2_with fail
    refine (lower_s c lc HL.out hc2 _).mono ?_
    rintro e w' ⟨rfl, rfl⟩
    go_wp2_with fail
    go_ret2
    exact ⟨rfl, HB.out⟩

set_option maxRecDepth 100000 in
set_option maxHeartbeats 1000000 in
theorem uintB_95 (s : ByteArray) (B d : Int) (hB : IsBase d B) (hsz : s.size = 1) (h0 : (s.data.toList.getD 0 0).toNat = 95) (w : World) :
    Calls Ybaf.prog 15 #[.string s, .int .i64 B, .int .i64 8] w fun e w' => e = .returned (.tuple #[.int .u64 0, .iface 54 (.int .i64 2)]) ∧ Below w.heap.size w w' := by
  obtain ⟨W1, cap, hcv, hcell, HB⟩ := conv_one s 95 hsz h0 w
  have hne := nonempty (s := s) (by omega)
  clear h0
  rcases hB with ⟨rfl, rfl⟩ | ⟨rfl, rfl⟩ | ⟨rfl, rfl⟩ | ⟨rfl, rfl⟩
  all_goals
    go_enter Ybaf.func15, Ybaf.ntmps15
    go_wp2
    refine wp_loop_rounds 2 ?_
    rw [rounds_succ]
    go_wp2_with fail
    refine (lower_s 95 127 (by decide) (by omega) _).mono ?_
    rintro e w' ⟨rfl, rfl⟩
    go_wp2_with fail
    refine (lower_s 95 127 (by decide) (by omega) _).mono ?_
    rintro e w' ⟨rfl, rfl⟩
    go_wp2_with fail
    go_ret2
    exact ⟨rfl, HB.out⟩

set_option maxRecDepth 100000 in
theorem or32_else : ∀ c : Fin 256, ¬ (48 ≤ c.val ∧ c.val ≤ 57) → ¬ (97 ≤ c.val ∧ c.val ≤ 122) → ¬ (65 ≤ c.val ∧ c.val ≤ 90) → c.val ||| 32 < 97 ∨ 57 < c.val ∧ 122 < c.val ||| 32 ∧ c.val ||| 32 < 256 := by decide

/-- A byte that is no digit of the base. -/
theorem uint_bad (s : ByteArray) (c : Nat) (B d : Int) (hB : IsBase d B) (hsz : s.size = 1) (h0 : (s.data.toList.getD 0 0).toNat = c) (hge : B ≤ (dval c : Int)) (w : World) :
    Calls Ybaf.prog 15 #[.string s, .int .i64 B, .int .i64 8] w fun e w' => e = .returned (.tuple #[.int .u64 0, .iface 54 (.int .i64 2)]) ∧ Below w.heap.size w w' := by
  have hc : c < 256 := by rw [← h0]; exact UInt8.toNat_lt _
  unfold dval at hge
  by_cases h1 : 48 ≤ c ∧ c ≤ 57
  · rw [if_pos h1] at hge
    exact uintB_digit s c B d hB hsz h0 h1.1 h1.2 (by omega) w
  · rw [if_neg h1] at hge
    by_cases h2 : 97 ≤ c ∧ c ≤ 122
    · rw [if_pos h2] at hge
      exact uintB_letter s c c B d hB ((or32 ⟨c, hc⟩).2 h2) hsz h0 (by omega) (by omega) (by omega) (by omega) (by omega) (by omega) w
    · rw [if_neg h2] at hge
      by_cases h3 : 65 ≤ c ∧ c ≤ 90
      · rw [if_pos h3] at hge
        exact uintB_letter s c (c + 32) B d hB ((or32 ⟨c, hc⟩).1 h3) hsz h0 (by omega) (by omega) (by omega) (by omega) (by omega) (by omega) w
      · by_cases h95 : c = 95
        · subst h95
          exact uintB_95 s B d hB hsz h0 w
        · rcases or32_else ⟨c, hc⟩ h1 h2 h3 with h | ⟨ha, hb, hd⟩
          · exact uintB_under s c _ B d hB rfl hsz h0 (by omega) hc h95 h w
          · exact uintB_over s c _ B d hB rfl hsz h0 ha hc h95 hb hd w
end Go.Proofs.YbulkbdxgFmt.W
