/-
  zzs2749cbuild.
-/
import Derived.Test.YbulkbdxgFmtParse
namespace Go.Proofs.YbulkbdxgFmt.W
open Go.RowKit
open Go.Proofs.YbulkbdxgFmt.P

/-- Where the loops of build stand. -/
structure BI (w : World) (N : Nat) (wr : World) : Prop where
  res : wr.heap[w.heap.size]? = some (.cells (idC 0) 28 (0, 0))
  x : wr.heap[w.heap.size + 1]? = some (.cells (idC N) 28 (0, 0))
  bel : Below w.heap.size w wr

theorem BI.set {w : World} {N : Nat} {wr : World} (h : BI w N wr) (M : Nat) : BI w M (wr.setRow (w.heap.size + 1) (idC M)) :=
  ⟨(setRow_other _ _ _ _ (by omega)).trans h.res, setRow_heap _ _ _ _ 28 (0, 0) h.x, below_setRow h.bel (by omega) _⟩

theorem or_val (x m : Nat) (hx : x < 18446744073709551616) (hm : m < 64) : bits .or .u64 (x : Int) (IntKind.u64.wrap (2 ^ m)) = ((x ||| 2 ^ m : Nat) : Int) := by
  have e1 : (2 : Int) ^ m = ((2 ^ m : Nat) : Int) := by simp
  have l1 : 2 ^ m < 18446744073709551616 := (Nat.pow_lt_pow_iff_right (a := 2) (by decide)).2 hm
  rw [e1, wrap_nat, Nat.mod_eq_of_lt l1, u64_or_nat _ _ hx l1]

theorem and_one (v k : Nat) (hv : v < 16) : bits .and .i64 ((v : Int) / 2 ^ k) 1 = ((v / 2 ^ k % 2 : Nat) : Int) := by
  have e1 : (v : Int) / 2 ^ k = ((v / 2 ^ k : Nat) : Int) := by simp
  have l1 : v / 2 ^ k ≤ v := Nat.div_le_self _ _
  rw [e1, ← Nat.and_one_is_mod]
  generalize v / 2 ^ k = x at *
  have : ∀ x : Fin 16, bits .and .i64 ((x.val : Nat) : Int) 1 = ((x.val &&& 1 : Nat) : Int) := by decide
  exact this ⟨x, by omega⟩

set_option maxRecDepth 100000 in
set_option maxHeartbeats 1000000 in
theorem build_any (R n d : Nat) (vs : List Nat) (hd : 1 ≤ d) (hd4 : d ≤ 4) (hW : n * d ≤ 256) (hn : vs.length = n) (hv : ∀ k, k < n → vs.getD k 0 < 2 ^ d) (w : World) (hR : R < w.heap.size)
    (hc : ∀ k, k < n → w.cell? ⟨R, k, none⟩ = some (.int .i64 (vs.getD k 0 : Nat))) :
    Calls Ybaf.prog 7 #[.int .i64 (n * d : Nat), .int .i64 d, .slice (some ⟨R, 0, none⟩) n n] w fun e w' => e = .returned (.agg (idC (num (n * d) d vs n))) ∧ Below w.heap.size w w' := by
  obtain ⟨W, hWe⟩ : ∃ W, W = n * d := ⟨_, rfl⟩
  rw [← hWe]
  have hn256 : n ≤ 256 := Nat.le_trans (Nat.le_mul_of_pos_right n hd) hW
  have hW256 : W ≤ 256 := by omega
  have HV := hide hv
  have HW := hide hWe
  have HC := hide hc
  clear hv hWe hW hc
  go_enter Ybaf.func7, Ybaf.ntmps7
  go_wp2_with fail
  have P0 : BI w (num W d vs 0) ((w.alloc (.cells #[.int .u64 0, .int .u64 0, .int .u64 0, .int .u64 0] 28)).alloc (.cells #[.int .u64 0, .int .u64 0, .int .u64 0, .int .u64 0] 28)) :=
    ⟨by rw [idC_zero, heap_past _ _ _ (by simp), heap_top _ _ _ rfl], by rw [show num W d vs 0 = 0 from rfl, idC_zero, heap_top _ _ _ (by simp)], ((Below.refl _ _).alloc (Nat.le_refl _) _).alloc (by simp) _⟩
  have HP := hide P0
  clear P0
  go_loopw [15] (fun i wr => ∃ k : Nat, k ≤ n ∧ i = .int .i64 k ∧ BI w (num W d vs k) wr) (fun i _ => n - (intOf i).toNat)
  case atStart => exact ⟨0, Nat.zero_le _, rfl, HP.out⟩
  case round =>
    obtain ⟨p, hp, rfl, hP⟩ := hrel
    clear HP
    by_cases hlt : p < n
    · have c0 : wr.cell? ⟨R, p, none⟩ = some (.int .i64 (vs.getD p 0 : Nat)) := (hP.bel.cell (p := ⟨R, p, none⟩) hR).trans (HC.out p hlt)
      have hv2 := HV.out p hlt
      have hle : (p + 1) * d ≤ W := by rw [HW.out]; exact Nat.mul_le_mul_right d hlt
      obtain ⟨low, hlow⟩ : ∃ low, low = W - (p + 1) * d := ⟨_, rfl⟩
      have hl : (W : Int) - ((p : Int) + 1) * d = low := by
        have : ((p : Int) + 1) * d = (((p + 1) * d : Nat) : Int) := by simp
        omega
      have hnum : num W d vs (p + 1) = put (num W d vs p) (vs.getD p 0) low := by rw [num, hlow]
      have hin : low + d ≤ 256 := by
        have : (p + 1) * d = p * d + d := by rw [Nat.add_mul, Nat.one_mul]
        omega
      have hpd : 0 ≤ ((p : Int) + 1) * d := by
        have : ((p : Int) + 1) * d = (((p + 1) * d : Nat) : Int) := by simp
        omega
      have hpd2 : ((p : Int) + 1) * d ≤ 256 := by omega
      obtain ⟨v, hv⟩ : ∃ v, vs.getD p 0 = v := ⟨_, rfl⟩
      rw [hv] at c0 hv2 hnum
      obtain ⟨N, hNe⟩ : ∃ N, num W d vs p = N := ⟨_, rfl⟩
      rw [hNe] at hnum hP
      have hv16 : v < 16 := Nat.lt_of_lt_of_le hv2 (Nat.pow_le_pow_right (n := 2) (by decide) hd4)
      have HP := hide hP
      have X6 := hide hnum
      have X7 := hide hv2
      have X8 := hide hle
      clear hP hnum hv hNe hlow hle hv2
      go_wp2_with fail
      go_loopw [11] (fun i wr => ∃ k : Nat, k ≤ d ∧ i = .int .i64 k ∧ BI w (put N (v % 2 ^ k) low) wr) (fun i _ => d - (intOf i).toNat)
      case atStart => exact ⟨0, Nat.zero_le _, rfl, by simpa [Nat.mod_one, put_zero] using HP.out⟩
      case round =>
        obtain ⟨k, hk, rfl, hP2⟩ := hrel
        clear HP
        have HP := hide hP2
        clear hP2
        by_cases hkd : k < d
        · rcases Nat.mod_two_eq_zero_or_one (v / 2 ^ k) with hb | hb
          · have hbit := and_one v k hv16
            rw [hb] at hbit
            have X1 := hide hb
            clear hb
            go_wp2_with fail
            go_roundw
            case rel => exact ⟨k + 1, hkd, by simp, by rw [← step_zero N v k low X1.out]; exact HP.out⟩
            case measure => simp [intOf]; omega
          · have hbit := and_one v k hv16
            rw [hb] at hbit
            have X1 := hide hb
            clear hb
            have i4 : (low + k) / 64 < 4 := by omega
            have cx : wr.cell? ⟨w.heap.size + 1, (low + k) / 64, none⟩ = some (.int .u64 (wd (put N (v % 2 ^ k) low) ((low + k) / 64))) := (row_cell HP.out.x).trans (idC_get _ _ i4)
            have fx : wr.frozen? ⟨w.heap.size + 1, (low + k) / 64, none⟩ = false := row_free HP.out.x
            go_wp2_with fail
            go_roundw
            case rel =>
              refine ⟨k + 1, hkd, by simp, ?_⟩
              rw [or_val _ _ (wd_lt _ _) (Nat.mod_lt _ (by decide)), setCell_eq_setRow wr _ _ _ 28 (0, 0) _ HP.out.x, bit_word, idC_set _ _ _ i4 (fun j _ hj => bit_else _ _ j hj), step_one N v k low X1.out]
              exact HP.out.set _
            case measure => simp [intOf]; omega
        · have hkd' : k = d := by omega
          subst hkd'
          have HP3 : Hid (BI w (num W k vs (p + 1)) wr) := by
            have := HP.out
            rw [Nat.mod_eq_of_lt X7.out, ← X6.out] at this
            exact this
          go_wp2_with fail
          go_roundw
          case rel => exact ⟨p + 1, hlt, by simp, HP3.out⟩
          case measure => simp [intOf]; omega
    · have hkn : p = n := by omega
      subst hkn
      have HP2 := hide hP
      clear hP
      go_wp2_with (first
        | (refine wpList_load_row rfl 28 (.tmp 7) rfl _ rfl 28 _ (0, 0) _ HP2.out.x Ybaf.underlying28 rfl info28 ?_)
        | (refine wpList_store_row rfl 28 (.tmp 6) (.tmp 53) rfl _ _ rfl rfl 28 _ HP2.out.res info28 rfl (all_one rfl) ?_))
      exact bodyPost_ret (results_cell_row rfl _ _ _ 28 _ (0, 0) _ rfl (setRow_heap _ _ _ _ 28 (0, 0) HP2.out.res) Ybaf.underlying28 rfl info28) rfl ⟨rfl, below_setRow HP2.out.bel (by omega) _⟩
end Go.Proofs.YbulkbdxgFmt.W
