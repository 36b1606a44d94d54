import Derived.Test.YbulkbdvcProg
import Derived.Test.YbulkbdvcPlain
import Derived.WalkKit
import Derived.Deep.QuietTactic
import Derived.BigQuiet
namespace Go.Proofs.Ybulkbdvc.W
open Go.RowKit
open Go.Proofs.Ybulkbdvc.P

theorem ret_int {k : IntKind} {a b : Int} (h : a = b) : Ending.returned (.int k a) = .returned (.int k b) := by rw [h]

/-- 'upperByte'. -/
theorem ub_any (c : UInt8) (w : World) :
    Calls Yba.prog 8 #[.int .u8 (c.toNat : Int)] w fun e w' => e = .returned (.int .u8 ((upB c).toNat : Int)) ∧ w' = w := by
  have hb : c.toNat < 256 := c.toNat_lt
  by_cases h1 : 97 ≤ c.toNat
  · by_cases h2 : c.toNat ≤ 122
    · rw [upB_yes c h1 h2]
      have h1' : (97 : Int) ≤ (c.toNat : Int) := by omega
      have h2' : (c.toNat : Int) ≤ 122 := by omega
      go_enter Yba.func8, Yba.ntmps8
      go_wp2
      go_ret
      exact ⟨ret_int (by omega), rfl⟩
    · rw [upB_no c (by omega)]
      have h1' : (97 : Int) ≤ (c.toNat : Int) := by omega
      have h2' : ¬ (c.toNat : Int) ≤ 122 := by omega
      go_enter Yba.func8, Yba.ntmps8
      go_wp2
      go_ret
      exact ⟨rfl, rfl⟩
  · rw [upB_no c (by omega)]
    have h1' : ¬ (97 : Int) ≤ (c.toNat : Int) := by omega
    go_enter Yba.func8, Yba.ntmps8
    go_wp2
    go_ret
    exact ⟨rfl, rfl⟩

/-- 'zzs2745cup'. -/
def isLow (c : UInt8) : Bool := decide (97 ≤ c.toNat ∧ c.toNat ≤ 122)
theorem cup_any (c : UInt8) (w : World) :
    Calls Yba.prog 5 #[.int .u8 (c.toNat : Int)] w fun e w' => e = .returned (.bool (isLow c)) ∧ w' = w := by
  have hb : c.toNat < 256 := c.toNat_lt
  unfold isLow
  by_cases h1 : 97 ≤ c.toNat
  · have h1' : (97 : Int) ≤ (c.toNat : Int) := by omega
    by_cases h2 : c.toNat ≤ 122
    · rw [decide_eq_true ⟨h1, h2⟩]
      have h2' : (c.toNat : Int) ≤ 122 := by omega
      go_enter Yba.func5, Yba.ntmps5
      go_wp2
      go_ret
      exact ⟨rfl, rfl⟩
    · rw [decide_eq_false (by omega)]
      have h2' : ¬ (c.toNat : Int) ≤ 122 := by omega
      go_enter Yba.func5, Yba.ntmps5
      go_wp2
      go_ret
      exact ⟨rfl, rfl⟩
  · rw [decide_eq_false (by omega)]
    have h1' : ¬ (97 : Int) ≤ (c.toNat : Int) := by omega
    go_enter Yba.func5, Yba.ntmps5
    go_wp2
    go_ret
    exact ⟨rfl, rfl⟩

theorem getB (s : ByteArray) (k : Nat) (h : k < s.size) : s.data.toList[k]'(by simpa using h) = s[k] := rfl

/-- 'IsUpperOf'. -/
theorem iu_any (u s : ByteArray) (hu : u.size ≤ 140737488351232) (_hs : s.size ≤ 140737488351232) (w : World) :
    Calls Yba.prog 6 #[.string u, .string s] w fun e w' => e = .returned (.bool (isUp u.data.toList s.data.toList)) ∧ ∃ n, w' = w.drewN n := by
  by_cases hl : u.size = s.size
  · have hl' : ((u.size : Int) != (s.size : Int)) = false := by simp [hl]
    go_enter Yba.func6, Yba.ntmps6
    go_wp2
    go_loopw [5] (fun i wr => ∃ k n : Nat, k ≤ s.size ∧ i = .int .i64 k ∧ wr = w.drewN n ∧ ∀ j (h1 : j < k) (h2 : j < s.size) (h3 : j < u.size), upB s[j] = u[j]) (fun i _ => s.size - (intOf i).toNat)
    case atStart => exact ⟨0, 0, Nat.zero_le _, rfl, rfl, fun j h => absurd h (Nat.not_lt_zero _)⟩
    case round =>
      obtain ⟨k, n, hk, rfl, hw0, hall⟩ := hrel
      have HW : Hid (wr = w.drewN n) := hw0
      clear hw0
      by_cases hlt : k < s.size
      · have hlu : k < u.size := by omega
        by_cases hne : upB s[k] = u[k]
        · have hne' : (((upB s[k]).toNat : Int) != (u[k].toNat : Int)) = false := by simp [hne]
          have H : Hid (upB s[k] = u[k]) := hne
          clear hne
          go_wp2_with fail
          go_quiet ((go_at_call 8; exact Calls.quiet_of_same (ub_any _ _)))
          go_wp2
          go_roundw
          case rel =>
            refine ⟨k + 1, n + nq, by omega, by go_num, by rw [HW.out, World.drewN_drewN], fun j h1 h2 h3 => ?_⟩
            by_cases hj : j = k
            · subst hj; exact H.out
            · exact hall j (by omega) h2 h3
          case measure => simp [intOf]; omega
        · have hne' : (((upB s[k]).toNat : Int) != (u[k].toNat : Int)) = true := by
            rw [bne_iff_ne]; intro e; exact hne (UInt8.toNat_inj.1 (by omega))
          have H : Hid (¬ upB s[k] = u[k]) := hne
          clear hne
          go_wp2_with fail
          go_quiet ((go_at_call 8; exact Calls.quiet_of_same (ub_any _ _)))
          go_wp2
          go_ret
          rw [isUp_at (u := u.data.toList) (s := s.data.toList) k (by simpa using hlu) (by simpa using hlt) H.out]
          exact ⟨rfl, n + nq, by rw [HW.out, World.drewN_drewN]⟩
      · go_wp2
        go_ret
        rw [isUp_all (u := u.data.toList) (s := s.data.toList) (by simpa using hl) (fun j h1 h2 => hall j (by simp at h2; omega) (by simpa using h2) (by simpa using h1))]
        exact ⟨rfl, n, HW.out⟩
  · have hl' : ((u.size : Int) != (s.size : Int)) = true := by simp; omega
    go_enter Yba.func6, Yba.ntmps6
    go_wp2
    go_ret
    rw [isUp_len (by simpa using hl)]
    exact ⟨rfl, 0, rfl⟩

end Go.Proofs.Ybulkbdvc.W
