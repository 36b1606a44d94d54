/-
  The law of exactness.
-/
import Derived.Test.YbulkbdxgFmtWell
import Derived.Test.YbulkbdxgFmtBad
import Derived.Test.YbulkbdxgFmtVal
namespace Go.Proofs.YbulkbdxgFmt.W
open Go.RowKit
open Go.Extern.Stop Go.Stop Go.Extern
open Go.Proofs.YbulkbdxgFmt.P

theorem pow_base {d : Nat} {B : Int} (hB : IsBase d B) : (2 : Int) ^ d = B := by
  rcases hB with ⟨h1, rfl⟩ | ⟨h1, rfl⟩ | ⟨h1, rfl⟩ | ⟨h1, rfl⟩
  · have : d = 1 := by omega
    subst this; rfl
  · have : d = 2 := by omega
    subst this; rfl
  · have : d = 3 := by omega
    subst this; rfl
  · have : d = 4 := by omega
    subst this; rfl

/-- The law's numbers: of the selector a, of nn: d bits a digit, m digits, m * d bits. -/
structure Nums (a nn q r m d W0 : Nat) : Prop where
  ha : a < 256
  hnn : nn < 65536
  hd1 : 1 ≤ d
  hd4 : d ≤ 4
  hq1 : 64 ≤ q
  q256 : q ≤ 256
  hrq : r < q
  hm : m = 1 + r
  hW0 : W0 = m * d
  hW : W0 ≤ 256
  f1 : (a : Int) % 4 + 1 = d
  f2 : (256 : Int) / d = q
  f3 : (nn : Int) % q = r
  f4 : 1 + (r : Int) = m
  f5 : (d : Int) * m = W0
  f6 : (W0 : Int) / d = m

theorem nums (a nn : Nat) (ha : a < 256) (hnn : nn < 65536) : ∃ q r m d W0, Nums a nn q r m d W0 ∧ d = a % 4 + 1 := by
  obtain ⟨d, hsel⟩ : ∃ d, a % 4 + 1 = d := ⟨_, rfl⟩
  obtain ⟨q, hq⟩ : ∃ q, 256 / d = q := ⟨_, rfl⟩
  obtain ⟨r, hr⟩ : ∃ r, nn % q = r := ⟨_, rfl⟩
  obtain ⟨m, hm⟩ : ∃ m, m = 1 + r := ⟨_, rfl⟩
  obtain ⟨W, hW⟩ : ∃ W, W = m * d := ⟨_, rfl⟩
  have hd1 : 1 ≤ d := by omega
  have hd4 : d ≤ 4 := by omega
  have hq1 : 64 ≤ q := by
    have : d = 1 ∨ d = 2 ∨ d = 3 ∨ d = 4 := by omega
    rcases this with rfl | rfl | rfl | rfl <;> omega
  have hrq : r < q := by rw [← hr]; exact Nat.mod_lt _ (by omega)
  have hmq : m ≤ q := by omega
  have hW256 : W ≤ 256 := by
    rw [hW]
    exact Nat.le_trans (Nat.mul_le_mul_right d hmq) (by rw [← hq]; exact Nat.div_mul_le_self _ _)
  have f5 : (d : Int) * m = W := by rw [hW, Nat.mul_comm]; simp
  refine ⟨q, r, m, d, W, ⟨ha, hnn, hd1, hd4, hq1, by rw [← hq]; exact Nat.div_le_self _ _, hrq, hm, hW, hW256, by omega, by rw [← hq]; simp, by rw [← hr]; simp, by omega, f5, ?_⟩, hsel.symm⟩
  rw [← f5]
  exact Int.mul_ediv_cancel_left _ (by omega)

set_option maxRecDepth 100000 in
set_option maxHeartbeats 1000000 in
/-- A text of another length. -/
theorem exact_len (F : Interp) (a nn q r m d W0 : Nat) (B : Int) (hB : IsBase d B) (hN : Nums a nn q r m d W0) (T : ByteArray) (hT : T.size ≤ 4096) (hlen : T.size = 0 ∨ 256 < T.size * d) (w : World) (hF : Told F w) :
    Calls Ybaf.prog 3 #[.int .u8 a, .int .u16 nn, .string T] w fun e w' => e = .returned (.bool true) ∧ Below w.heap.size w w' := by
  obtain ⟨ha, hnn, hd1, hd4, hq1, q256, hrq, hm, hW0, hW256, f1, f2, f3, f4, f5, f6⟩ := hN
  have hm256 : m ≤ 256 := by rw [hW0] at hW256; exact Nat.le_trans (Nat.le_mul_of_pos_right m hd1) hW256
  have hne : T.size ≠ m := by
    rcases hlen with h | h
    · omega
    · intro e
      rw [e, ← hW0] at h
      omega
  have hne' : (T.size : Int) ≠ m := by omega
  have heq := fun wx => eq28 wx 0 0 0 0
  have HB := hide hB
  have HF := hide hF
  clear hB hF hW0 hm
  generalize hL : T.size * d = L at hlen
  have f8 : (T.size : Int) * d = L := by rw [← hL]; simp
  have hL2 : L ≤ 16384 := by rw [← hL]; exact Nat.le_trans (Nat.mul_le_mul hT hd4) (by decide)
  clear hL
  rcases hlen with h0 | h0
  all_goals
    go_enter Ybaf.func3, Ybaf.ntmps3
    go_wp2_with fail
  all_goals
    refine (Parse_len F T W0 d m B HB.out (by omega) (by omega) (by omega) (by omega) f6 hT hne' _ (HF.out.alloc _)).mono ?_
    rintro e u1 ⟨⟨N, rfl⟩, hu1⟩
    have H1 : Hid (Below w.heap.size w u1) := ((Below.refl _ _).alloc (Nat.le_refl _) _).trans (hu1.mono (by simp))
    clear hu1
    rw [idC_zero]
    go_wp2
    go_ret
    exact ⟨rfl, H1.out.alloc H1.out.size _⟩
end Go.Proofs.YbulkbdxgFmt.W
