/-
  The law of exactness at a text of good digits.
-/
import Derived.Test.YbulkbdxgFmtExactBad
namespace Go.Proofs.YbulkbdxgFmt.W
open Go.RowKit
open Go.Extern.Stop Go.Stop Go.Extern
open Go.Proofs.YbulkbdxgFmt.P

theorem Parse_good_s (T : ByteArray) (n d W N : Nat) (B : Int) (vs : List Nat) (hW : W = n * d) (hvs : vs = (List.range n).map fun k => dval (byteN T k)) (hN : num W d vs n = N) (hB : IsBase d B) (hd : 1 ≤ d) (hd4 : d ≤ 4) (hn : 1 ≤ n) (hW2 : W ≤ 256) (hT : T.size = n) (hall : ∀ k, k < n → (dval (byteN T k) : Int) < B) (w : World) :
    Calls Ybaf.prog 5 #[.agg #[.int .i64 W, .int .i64 d], .string T] w fun e w' => e = .returned (.tuple #[.agg #[.int .u64 (wd N 0), .int .u64 (wd N 1), .int .u64 (wd N 2), .int .u64 (wd N 3)], .nilIface]) ∧ Below w.heap.size w w' := by
  subst hN
  exact Parse_s T n d W B vs hW hvs hB hd hd4 hn hW2 hT hall w

set_option maxRecDepth 100000 in
set_option maxHeartbeats 1000000 in
theorem exact_good (a nn q r m d W0 W n : Nat) (B : Int) (hB : IsBase d B) (hN : Nums a nn q r m d W0) (T : ByteArray) (hT : T.size = n) (hn1 : 1 ≤ n) (hW : W = n * d) (hW2 : W ≤ 256) (hall : ∀ k, k < n → (dval (byteN T k) : Int) < B) (w : World) :
    Calls Ybaf.prog 3 #[.int .u8 a, .int .u16 nn, .string T] w fun e w' => e = .returned (.bool true) ∧ Below w.heap.size w w' := by
  obtain ⟨ha, hnn, hd1, hd4, hq1, q256, hrq, hm, hW0, hW256, f1, f2, f3, f4, f5, f6⟩ := hN
  have hm256 : m ≤ 256 := by rw [hW0] at hW256; exact Nat.le_trans (Nat.le_mul_of_pos_right m hd1) hW256
  have hn256 : n ≤ 256 := by rw [hW] at hW2; exact Nat.le_trans (Nat.le_mul_of_pos_right n hd1) hW2
  have f7 := pow_base hB
  obtain ⟨b, rfl⟩ : ∃ b : Nat, B = b := ⟨B.toNat, by rcases hB with ⟨_, rfl⟩ | ⟨_, rfl⟩ | ⟨_, rfl⟩ | ⟨_, rfl⟩ <;> rfl⟩
  have hB2 : 2 ≤ b := by rcases hB with ⟨_, h⟩ | ⟨_, h⟩ | ⟨_, h⟩ | ⟨_, h⟩ <;> omega
  have hB16 : b ≤ 16 := by rcases hB with ⟨_, h⟩ | ⟨_, h⟩ | ⟨_, h⟩ | ⟨_, h⟩ <;> omega
  have f8 : (n : Int) * d = W := by rw [hW]; simp
  have f9 : (W : Int) / d = n := by
    rw [← f8]
    exact Int.mul_ediv_cancel _ (by omega)
  obtain ⟨vs, hvs⟩ : ∃ vs, vs = (List.range n).map fun k => dval (byteN T k) := ⟨_, rfl⟩
  obtain ⟨N, hNe⟩ : ∃ N, num W d vs n = N := ⟨_, rfl⟩
  have hvl : vs.length = n := by rw [hvs]; simp
  have hvsk : ∀ k, k < n → vs.getD k 0 = dval (byteN T k) := by
    intro k hk
    rw [hvs]
    simp [List.getD, hk]
  have hv2 : ∀ k, k < n → vs.getD k 0 < 2 ^ d := by
    intro k hk
    rw [hvsk k hk]
    exact base_pow hB (hall k hk)
  have HB := hide hB
  have HW := hide hW
  have HA := hide hall
  have HVS := hide hvs
  have HN := hide hNe
  have HK := hide hvsk
  have H2 := hide hv2
  clear hB hW0 hm hW hall hvs hNe hvsk hv2
  have mk1 : ∀ wx, Sem.run Ybaf.prog (Instr.makeSlice 34 (.int .i64 n) (.int .i64 n)) wx = .ok (.slice (some ⟨wx.heap.size, 0, none⟩) n n) (wx.alloc (.cells (madeCells #[.int .i64 0] n) 3)) :=
    fun wx => run_make_row' 34 3 _ 8 Ybaf.underlying34 info3 rfl .i64 .i64 n (by omega) (by omega) wx
  go_enter Ybaf.func3, Ybaf.ntmps3
  go_wp2_with fail
  refine (Parse_good_s T n d W N b vs HW.out HVS.out HN.out HB.out hd1 hd4 hn1 hW2 hT HA.out _).mono ?_
  rintro e u1 ⟨rfl, hu1⟩
  have H1 : Hid (Below w.heap.size w u1) := ((Below.refl _ _).alloc (Nat.le_refl _) _).trans (hu1.mono (by simp))
  clear hu1
  go_wp2_with fail
  have P0 := XI.start H1.out #[.int .u64 (wd N 0), .int .u64 (wd N 1), .int .u64 (wd N 2), .int .u64 (wd N 3)] n (fun i => .int .i64 (dval (byteN T i) : Nat))
  have HP := hide P0
  clear P0 mk1
  go_loopw [14] (fun i wr => ∃ k : Nat, k ≤ n ∧ i = .int .i64 k ∧ XI w u1.heap.size #[.int .u64 (wd N 0), .int .u64 (wd N 1), .int .u64 (wd N 2), .int .u64 (wd N 3)] n (fun i => .int .i64 (dval (byteN T i) : Nat)) k wr) (fun i _ => n - (intOf i).toNat)
  case atStart => exact ⟨0, Nat.zero_le _, rfl, HP.out⟩
  case round =>
    obtain ⟨k, hk, rfl, hI⟩ := hrel
    clear HP
    have HP := hide hI
    by_cases hlt : k < n
    · have hkT : k < T.size := by omega
      have hbl := byteN_lt T k
      have hdl := dval_lt _ hbl
      have hg := byteN_get T k hkT
      have hvb := HA.out k hlt
      obtain ⟨c, hc⟩ : ∃ c, byteN T k = c := ⟨_, rfl⟩
      rw [hc] at hbl hdl hg hvb
      obtain ⟨v, hv⟩ : ∃ v, dval c = v := ⟨_, rfl⟩
      rw [hv] at hdl hvb
      have X1 := hide hv
      have X2 := hide hg
      have cv : wr.cell? ⟨u1.heap.size + 1, k, none⟩ = some (.int .i64 0) := (row_cell hI.vals).trans ((rowV_get _ _ _ _ _ hlt).trans (by simp))
      have fv : wr.frozen? ⟨u1.heap.size + 1, k, none⟩ = false := row_free hI.vals
      have HS := HP.out.step
      rw [hc, hv] at HS
      have HS2 := hide HS
      clear HS hI hv hg hc HP
      go_wp2_with fail
      refine (val_s _ c v (congrArg Int.ofNat X2.out) hbl X1.out _).mono ?_
      rintro e w' ⟨rfl, rfl⟩
      go_wp2_with fail
      go_roundw
      case rel => exact ⟨k + 1, hlt, by simp, HS2.out⟩
      case measure => simp [intOf]; omega
    · have hkn : k = n := by omega
      subst hkn
      have hvc : ∀ i, i < k → wr.cell? ⟨u1.heap.size + 1, i, none⟩ = some (.int .i64 (vs.getD i 0 : Nat)) := by
        intro i hi
        rw [row_cell hI.vals, rowV_get _ _ _ _ _ hi, HK.out i hi]
        simp [hi]
      have Y7 := hide hvc
      have z1 : u1.heap.size < wr.heap.size := (Array.getElem?_eq_some_iff.1 hI.x).1
      have zR : u1.heap.size + 1 < wr.heap.size := (Array.getElem?_eq_some_iff.1 hI.vals).1
      have c0 : wr.cell? ⟨u1.heap.size, 0, none⟩ = some (.int .u64 (wd N 0)) := (row_cell hI.x).trans rfl
      have c1 : wr.cell? ⟨u1.heap.size, 1, none⟩ = some (.int .u64 (wd N 1)) := (row_cell hI.x).trans rfl
      have c2 : wr.cell? ⟨u1.heap.size, 2, none⟩ = some (.int .u64 (wd N 2)) := (row_cell hI.x).trans rfl
      have c3 : wr.cell? ⟨u1.heap.size, 3, none⟩ = some (.int .u64 (wd N 3)) := (row_cell hI.x).trans rfl
      have heq := fun wx => eq28 wx (wd N 0) (wd N 1) (wd N 2) (wd N 3)
      clear hI hvc
      go_wp2_with fail
      go_region_held3 (fun w' => w'.cell? ⟨u1.heap.size, 0, none⟩ = some (.int .u64 (wd N 0)) ∧ w'.cell? ⟨u1.heap.size, 1, none⟩ = some (.int .u64 (wd N 1)) ∧ w'.cell? ⟨u1.heap.size, 2, none⟩ = some (.int .u64 (wd N 2)) ∧ w'.cell? ⟨u1.heap.size, 3, none⟩ = some (.int .u64 (wd N 3)))
        ((first | exact ⟨c0, c1, c2, c3⟩ | exact ⟨d0, d1, d2, d3⟩))
        ((go_at_call 7; refine (build_s (u1.heap.size + 1) k d W vs N HW.out HN.out hd1 hd4 hW2 hvl H2.out wr.drew zR Y7.out).mono ?_; rintro e v2 ⟨rfl, hv2⟩
          have d0 : v2.cell? ⟨u1.heap.size, 0, none⟩ = some (.int .u64 (wd N 0)) := (hv2.cell (p := ⟨u1.heap.size, 0, none⟩) z1).trans c0
          have d1 : v2.cell? ⟨u1.heap.size, 1, none⟩ = some (.int .u64 (wd N 1)) := (hv2.cell (p := ⟨u1.heap.size, 1, none⟩) z1).trans c1
          have d2 : v2.cell? ⟨u1.heap.size, 2, none⟩ = some (.int .u64 (wd N 2)) := (hv2.cell (p := ⟨u1.heap.size, 2, none⟩) z1).trans c2
          have d3 : v2.cell? ⟨u1.heap.size, 3, none⟩ = some (.int .u64 (wd N 3)) := (hv2.cell (p := ⟨u1.heap.size, 3, none⟩) z1).trans c3))
      have HF : Hid (Below w.heap.size w v2) := HP.out.bel.drew.trans (hv2.mono HP.out.bel.size)
      clear hv2 d0 d1 d2 d3 c0 c1 c2 c3
      go_wp2
      go_ret
      exact ⟨rfl, HF.out⟩
end Go.Proofs.YbulkbdxgFmt.W
