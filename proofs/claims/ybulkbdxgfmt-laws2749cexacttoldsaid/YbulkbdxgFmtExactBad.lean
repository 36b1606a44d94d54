/-
  The law of exactness at a text with a bad byte.
-/
import Derived.Test.YbulkbdxgFmtExact
namespace Go.Proofs.YbulkbdxgFmt.W
open Go.RowKit
open Go.Extern.Stop Go.Stop Go.Extern
open Go.Proofs.YbulkbdxgFmt.P

/-- Where the law's loop stands: the id in block X, the values in the block behind it. -/
structure XI (w : World) (X : Nat) (cs : Array Value) (n : Nat) (g : Nat → Value) (i : Nat) (wr : World) : Prop where
  le : w.heap.size ≤ X
  x : wr.heap[X]? = some (.cells cs 28 (0, 0))
  vals : wr.heap[X + 1]? = some (.cells (rowV g (.int .i64 0) i n) 3 (0, 0))
  bel : Below w.heap.size w wr

theorem XI.start {w u : World} (h : Below w.heap.size w u) (cs : Array Value) (n : Nat) (g : Nat → Value) :
    XI w u.heap.size cs n g 0 ((u.alloc (.cells cs 28)).alloc (.cells (madeCells #[.int .i64 0] n) 3)) := by
  have s1 : (u.alloc (.cells cs 28)).heap.size = u.heap.size + 1 := by simp
  refine ⟨h.size, ?_, ?_, (h.alloc h.size _).alloc (by rw [s1]; exact Nat.le_succ_of_le h.size) _⟩
  · rw [heap_past _ _ _ (by omega), heap_top _ _ _ rfl]
  · rw [heap_top _ _ _ (by omega), rowV_zero g]

theorem XI.step {w : World} {X : Nat} {cs : Array Value} {n : Nat} {g : Nat → Value} {i : Nat} {wr : World} (h : XI w X cs n g i wr) : XI w X cs n g (i + 1) (wr.setCell ⟨X + 1, i, none⟩ (g i)) := by
  rw [setCell_eq_setRow wr (X + 1) i _ 3 (0, 0) (g i) h.vals, rowV_set]
  exact ⟨h.le, (setRow_other _ _ _ _ (by omega)).trans h.x, setRow_heap _ _ _ _ 3 (0, 0) h.vals, below_setRow h.bel (by have := h.le; omega) _⟩

theorem val_s (C : Int) (c v : Nat) (hC : C = c) (hc : c < 256) (hv : dval c = v) (w : World) :
    Calls Ybaf.prog 6 #[.int .u8 C] w fun e w' => e = .returned (.int .i64 v) ∧ w' = w := by
  subst hC
  exact val_any c v hc hv w

theorem byteN_lt (T : ByteArray) (k : Nat) : byteN T k < 256 := UInt8.toNat_lt _
theorem dval_lt (c : Nat) (hc : c < 256) : dval c < 256 := by
  unfold dval
  split
  · omega
  · split
    · omega
    · split <;> omega

theorem Parse_bad_s (F : Interp) (T : ByteArray) (n d W : Nat) (B : Int) (hW : W = n * d) (hB : IsBase d B) (hd : 1 ≤ d) (hd4 : d ≤ 4) (hn : 1 ≤ n) (hW2 : W ≤ 256) (hT : T.size = n) (m : Nat) (hm : m < n) (hall : ∀ k, k < m → (dval (byteN T k) : Int) < B) (hbad : B ≤ (dval (byteN T m) : Int)) (te : TypeId) (pe : Value) (w : World) (hF : Told F w) (hv : w.cell? ⟨0, 0, none⟩ = some (.iface te pe)) :
    Calls Ybaf.prog 5 #[.agg #[.int .i64 W, .int .i64 d], .string T] w fun e w' => (∃ N, e = .returned (.tuple #[.agg #[.int .u64 0, .int .u64 0, .int .u64 0, .int .u64 0], .iface 51 (.pointer (some ⟨N, 0, none⟩))])) ∧ Below w.heap.size w w' := by
  subst hW
  rw [← idC_zero]
  exact Parse_bad F T n d B hB hd hd4 hn hW2 hT m hm hall hbad te pe w hF hv

set_option maxRecDepth 100000 in
set_option maxHeartbeats 1000000 in
theorem exact_bad (F : Interp) (a nn q r m d W0 W n j : Nat) (B : Int) (hB : IsBase d B) (hN : Nums a nn q r m d W0) (T : ByteArray) (hT : T.size = n) (hn1 : 1 ≤ n) (hW : W = n * d) (hW2 : W ≤ 256) (hj : j < n) (hall : ∀ k, k < j → (dval (byteN T k) : Int) < B) (hbad : B ≤ (dval (byteN T j) : Int)) (te : TypeId) (pe : Value) (w : World) (hF : Told F w) (hv : w.cell? ⟨0, 0, none⟩ = some (.iface te pe)) :
    Calls Ybaf.prog 3 #[.int .u8 a, .int .u16 nn, .string T] w fun e w' => e = .returned (.bool true) ∧ Below w.heap.size w w' := by
  obtain ⟨ha, hnn, hd1, hd4, hq1, q256, hrq, hm, hW0, hW256, f1, f2, f3, f4, f5, f6⟩ := hN
  have hm256 : m ≤ 256 := by rw [hW0] at hW256; exact Nat.le_trans (Nat.le_mul_of_pos_right m hd1) hW256
  have hn256 : n ≤ 256 := by rw [hW] at hW2; exact Nat.le_trans (Nat.le_mul_of_pos_right n hd1) hW2
  have f7 := pow_base hB
  obtain ⟨b, rfl⟩ : ∃ b : Nat, B = b := ⟨B.toNat, by rcases hB with ⟨_, rfl⟩ | ⟨_, rfl⟩ | ⟨_, rfl⟩ | ⟨_, rfl⟩ <;> rfl⟩
  have hB2 : 2 ≤ b := by rcases hB with ⟨_, h⟩ | ⟨_, h⟩ | ⟨_, h⟩ | ⟨_, h⟩ <;> omega
  have hB16 : b ≤ 16 := by rcases hB with ⟨_, h⟩ | ⟨_, h⟩ | ⟨_, h⟩ | ⟨_, h⟩ <;> omega
  have f8 : (n : Int) * d = W := by rw [hW]; simp
  have f9 : (W : Int) / d = n := by
    rw [← f8]
    exact Int.mul_ediv_cancel _ (by omega)
  have heq := fun wx => eq28 wx 0 0 0 0
  have HB := hide hB
  have HF := hide hF
  have HW := hide hW
  have HA := hide hall
  have HX := hide hbad
  have HV := hide hv
  clear hB hF hW0 hm hW hall hbad hv
  have mk1 : ∀ wx, Sem.run Ybaf.prog (Instr.makeSlice 34 (.int .i64 n) (.int .i64 n)) wx = .ok (.slice (some ⟨wx.heap.size, 0, none⟩) n n) (wx.alloc (.cells (madeCells #[.int .i64 0] n) 3)) :=
    fun wx => run_make_row' 34 3 _ 8 Ybaf.underlying34 info3 rfl .i64 .i64 n (by omega) (by omega) wx
  go_enter Ybaf.func3, Ybaf.ntmps3
  go_wp2_with fail
  refine (Parse_bad_s F T n d W b HW.out HB.out hd1 hd4 hn1 hW2 hT j hj HA.out HX.out te pe _ (HF.out.alloc _) (keepA HV.out _)).mono ?_
  rintro e u1 ⟨⟨N, rfl⟩, hu1⟩
  have H1 : Hid (Below w.heap.size w u1) := ((Below.refl _ _).alloc (Nat.le_refl _) _).trans (hu1.mono (by simp))
  clear hu1
  go_wp2_with fail
  have P0 := XI.start H1.out #[.int .u64 0, .int .u64 0, .int .u64 0, .int .u64 0] n (fun i => .int .i64 (dval (byteN T i) : Nat))
  have HP := hide P0
  clear P0 mk1 HV HF
  go_loopw [14] (fun i wr => ∃ k : Nat, k ≤ j ∧ i = .int .i64 k ∧ XI w u1.heap.size #[.int .u64 0, .int .u64 0, .int .u64 0, .int .u64 0] n (fun i => .int .i64 (dval (byteN T i) : Nat)) k wr) (fun i _ => n - (intOf i).toNat)
  case atStart => exact ⟨0, Nat.zero_le _, rfl, HP.out⟩
  case round =>
    obtain ⟨k, hk, rfl, hI⟩ := hrel
    clear HP
    have HP := hide hI
    have hkn : k < n := by omega
    have hkT : k < T.size := by omega
    have hbl := byteN_lt T k
    have hdl := dval_lt _ hbl
    have hg := byteN_get T k hkT
    obtain ⟨c, hc⟩ : ∃ c, byteN T k = c := ⟨_, rfl⟩
    rw [hc] at hbl hdl hg
    obtain ⟨v, hv⟩ : ∃ v, dval c = v := ⟨_, rfl⟩
    rw [hv] at hdl
    have X1 := hide hv
    have X2 := hide hg
    by_cases hlt : k < j
    · have hvb := HA.out k hlt
      rw [hc, hv] at hvb
      have cv : wr.cell? ⟨u1.heap.size + 1, k, none⟩ = some (.int .i64 0) := (row_cell hI.vals).trans ((rowV_get _ _ _ _ _ hkn).trans (by simp))
      have fv : wr.frozen? ⟨u1.heap.size + 1, k, none⟩ = false := row_free hI.vals
      have HS := HP.out.step
      rw [hc, hv] at HS
      have HS2 := hide HS
      clear HS hI hv hg hc HP
      go_wp2_with fail
      refine (val_s _ c v (congrArg Int.ofNat X2.out) hbl X1.out _).mono ?_
      rintro e w' ⟨rfl, rfl⟩
      go_wp2_with fail
      go_roundw
      case rel => exact ⟨k + 1, hlt, by simp, HS2.out⟩
      case measure => simp [intOf]; omega
    · have hkj : k = j := by omega
      subst hkj
      have hvb := HX.out
      rw [hc, hv] at hvb
      have c0 : wr.cell? ⟨u1.heap.size, 0, none⟩ = some (.int .u64 0) := (row_cell hI.x).trans rfl
      have c1 : wr.cell? ⟨u1.heap.size, 1, none⟩ = some (.int .u64 0) := (row_cell hI.x).trans rfl
      have c2 : wr.cell? ⟨u1.heap.size, 2, none⟩ = some (.int .u64 0) := (row_cell hI.x).trans rfl
      have c3 : wr.cell? ⟨u1.heap.size, 3, none⟩ = some (.int .u64 0) := (row_cell hI.x).trans rfl
      clear hI hv hg hc
      go_wp2_with fail
      refine (val_s _ c v (congrArg Int.ofNat X2.out) hbl X1.out _).mono ?_
      rintro e w' ⟨rfl, rfl⟩
      go_wp2_with fail
      go_ret
      exact ⟨rfl, HP.out.bel⟩
end Go.Proofs.YbulkbdxgFmt.W
