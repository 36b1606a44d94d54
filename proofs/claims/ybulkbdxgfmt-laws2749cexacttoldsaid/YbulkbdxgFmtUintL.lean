import Derived.Test.YbulkbdxgFmtUint
namespace Go.Proofs.YbulkbdxgFmt.W
open Go.RowKit
open Go.Proofs.YbulkbdxgFmt.P

theorem lower_s (c lc : Nat) (h : c ||| 32 = lc) (hc : c < 256) (w : World) :
    Calls Ybaf.prog 19 #[.int .u8 c] w fun e w' => e = .returned (.int .u8 lc) ∧ w' = w := by
  subst h
  exact lower_any c hc w

set_option maxRecDepth 100000 in
set_option maxHeartbeats 1000000 in
theorem uint_letter (s : ByteArray) (c lc : Nat) (hlc : c ||| 32 = lc) (hsz : s.size = 1) (h0 : (s.data.toList.getD 0 0).toNat = c) (hc1 : 65 ≤ c) (hc2 : c ≤ 122) (h95 : c ≠ 95) (h1 : 97 ≤ lc) (h2 : lc ≤ 102) (w : World) :
    Calls Ybaf.prog 15 #[.string s, .int .i64 16, .int .i64 8] w fun e w' => e = .returned (.tuple #[.int .u64 ((lc : Int) - 97 + 10), .nilIface]) ∧ Below w.heap.size w w' := by
  obtain ⟨W1, cap, hcv, hcell, HB⟩ := conv_one s c hsz h0 w
  have hne := nonempty (s := s) (by omega)
  have HL := hide hlc
  clear h0 hlc
  go_enter Ybaf.func15, Ybaf.ntmps15
  go_wp2
  refine wp_loop_rounds 2 ?_
  rw [rounds_succ]
  go_wp2_with fail
  refine (lower_s c lc HL.out (by omega) _).mono ?_
  rintro e w' ⟨rfl, rfl⟩
  go_wp2_with fail
  refine (lower_s c lc HL.out (by omega) _).mono ?_
  rintro e w' ⟨rfl, rfl⟩
  go_wp2_with fail
  refine (lower_s c lc HL.out (by omega) _).mono ?_
  rintro e w' ⟨rfl, rfl⟩
  go_wp2
  rw [rounds_succ]
  go_wp2
  go_ret2
  exact ⟨rfl, HB.out⟩

set_option maxRecDepth 100000 in
theorem or32 : ∀ c : Fin 256, (65 ≤ c.val ∧ c.val ≤ 90 → c.val ||| 32 = c.val + 32) ∧ (97 ≤ c.val ∧ c.val ≤ 122 → c.val ||| 32 = c.val) := by decide

/-- A byte that is a digit of the base. -/
theorem uint_ok (s : ByteArray) (c v : Nat) (B d : Int) (hB : IsBase d B) (hsz : s.size = 1) (h0 : (s.data.toList.getD 0 0).toNat = c) (hv : dval c = v) (hlt : (v : Int) < B) (w : World) :
    Calls Ybaf.prog 15 #[.string s, .int .i64 B, .int .i64 8] w fun e w' => e = .returned (.tuple #[.int .u64 v, .nilIface]) ∧ Below w.heap.size w w' := by
  have hc : c < 256 := by rw [← h0]; exact UInt8.toNat_lt _
  have hB16 : B ≤ 16 := by rcases hB with ⟨_, rfl⟩ | ⟨_, rfl⟩ | ⟨_, rfl⟩ | ⟨_, rfl⟩ <;> decide
  have h16 : 10 ≤ v → B = 16 := by rcases hB with ⟨_, rfl⟩ | ⟨_, rfl⟩ | ⟨_, rfl⟩ | ⟨_, rfl⟩ <;> omega
  unfold dval at hv
  by_cases h1 : 48 ≤ c ∧ c ≤ 57
  · rw [if_pos h1] at hv
    have e : (v : Int) = (c : Int) - 48 := by omega
    rw [e]
    exact uint_digit s c B d hB hsz h0 h1.1 h1.2 (by omega) w
  · rw [if_neg h1] at hv
    by_cases h2 : 97 ≤ c ∧ c ≤ 122
    · rw [if_pos h2] at hv
      have e : (v : Int) = (c : Int) - 97 + 10 := by omega
      rw [e, h16 (by omega)]
      exact uint_letter s c c ((or32 ⟨c, hc⟩).2 h2) hsz h0 (by omega) (by omega) (by omega) (by omega) (by omega) w
    · rw [if_neg h2] at hv
      by_cases h3 : 65 ≤ c ∧ c ≤ 90
      · rw [if_pos h3] at hv
        have e : (v : Int) = ((c + 32 : Nat) : Int) - 97 + 10 := by omega
        rw [e, h16 (by omega)]
        exact uint_letter s c (c + 32) ((or32 ⟨c, hc⟩).1 h3) hsz h0 (by omega) (by omega) (by omega) (by omega) (by omega) w
      · rw [if_neg h3] at hv
        omega

set_option maxRecDepth 100000 in
set_option maxHeartbeats 1000000 in
theorem parse_ok (s : ByteArray) (c v : Nat) (B d : Int) (hB : IsBase d B) (hsz : s.size = 1) (h0 : (s.data.toList.getD 0 0).toNat = c) (hv : dval c = v) (hlt : (v : Int) < B) (w : World) :
    Calls Ybaf.prog 11 #[.string s, .int .i64 B, .int .i64 8] w fun e w' => e = .returned (.tuple #[.int .u64 v, .nilIface]) ∧ Below w.heap.size w w' := by
  have H0 := hide h0
  have HV := hide hv
  clear h0 hv
  go_enter Ybaf.func11, Ybaf.ntmps11
  go_wp2_with fail
  refine (uint_ok s c v B d hB hsz H0.out HV.out hlt _).mono ?_
  rintro e w' ⟨rfl, hb⟩
  have HB := hide hb
  clear hb
  go_wp2
  go_ret2
  exact ⟨rfl, HB.out⟩
end Go.Proofs.YbulkbdxgFmt.W
