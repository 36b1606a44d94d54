/-
  Parse of a text of good digits.
-/
import Derived.Test.YbulkbdxgFmtUintL
namespace Go.Proofs.YbulkbdxgFmt.W
open Go.RowKit
open Go.Proofs.YbulkbdxgFmt.P

def byteN (T : ByteArray) (k : Nat) : Nat := (T.data.toList.getD k 0).toNat

/-- Where the loop of Parse stands: the space, the result, the number so far. -/
structure PI (w : World) (W d : Int) (N : Nat) (wr : World) : Prop where
  sp : wr.heap[w.heap.size]? = some (.cells (spaceC W d) 24 (0, 0))
  res : wr.heap[w.heap.size + 1]? = some (.cells (idC 0) 28 (0, 0))
  x : wr.heap[w.heap.size + 1 + 1 + 1]? = some (.cells (idC N) 28 (0, 0))
  bel : Below w.heap.size w wr

theorem PI.below {w : World} {W d : Int} {N : Nat} {wr wr' : World} (h : PI w W d N wr) (hb : Below wr.heap.size wr wr') : PI w W d N wr' :=
  ⟨(hb.block _ (Array.getElem?_eq_some_iff.1 h.sp).1).trans h.sp, (hb.block _ (Array.getElem?_eq_some_iff.1 h.res).1).trans h.res, (hb.block _ (Array.getElem?_eq_some_iff.1 h.x).1).trans h.x, h.bel.trans (hb.mono h.bel.size)⟩

theorem four (w : World) (a b c e : Obj) : ((((w.alloc a).alloc b).alloc c).alloc e).heap[w.heap.size]? = some a ∧ ((((w.alloc a).alloc b).alloc c).alloc e).heap[w.heap.size + 1]? = some b ∧
    ((((w.alloc a).alloc b).alloc c).alloc e).heap[w.heap.size + 1 + 1]? = some c ∧ ((((w.alloc a).alloc b).alloc c).alloc e).heap[w.heap.size + 1 + 1 + 1]? = some e := by
  have s1 : (w.alloc a).heap.size = w.heap.size + 1 := by simp
  have s2 : ((w.alloc a).alloc b).heap.size = w.heap.size + 1 + 1 := by simp
  have s3 : (((w.alloc a).alloc b).alloc c).heap.size = w.heap.size + 1 + 1 + 1 := by simp
  refine ⟨?_, ?_, ?_, ?_⟩
  · rw [heap_past _ _ _ (by omega), heap_past _ _ _ (by omega), heap_past _ _ _ (by omega), heap_top _ _ _ rfl]
  · rw [heap_past _ _ _ (by omega), heap_past _ _ _ (by omega), heap_top _ _ _ (by omega)]
  · rw [heap_past _ _ _ (by omega), heap_top _ _ _ (by omega)]
  · rw [heap_top _ _ _ (by omega)]
theorem four_below (w : World) (a b c e : Obj) : Below w.heap.size w ((((w.alloc a).alloc b).alloc c).alloc e) :=
  ((((Below.refl _ _).alloc (Nat.le_refl _) _).alloc (by simp) _).alloc (by simp; omega) _).alloc (by simp; omega) _

theorem idC_zero : idC 0 = #[.int .u64 0, .int .u64 0, .int .u64 0, .int .u64 0] := by simp [idC, wd_zero]

theorem wrap_i64 (z : Int) (h0 : 0 ≤ z) (h1 : z < 9223372036854775808) : IntKind.i64.wrap z = z := by
  simp [IntKind.wrap, IntKind.bits, IntKind.signed]
  omega

/-- The text's byte k as a text. -/
theorem sub_run (T : ByteArray) (k : Nat) (hk : k < T.size) (hs : T.size ≤ 256) : ∃ s : ByteArray, s.size = 1 ∧ (s.data.toList.getD 0 0).toNat = byteN T k ∧
    ∀ wx, Sem.run Ybaf.prog (Instr.slice 9 (.string T) (some (.int .i64 k)) (some (.int .i64 (IntKind.i64.wrap ((k : Int) + 1)))) none) wx = .ok (.string s) wx := by
  refine ⟨T.extract k (k + 1), by simp; omega, ?_, fun wx => ?_⟩
  · unfold byteN
    simp
    done
  · rw [wrap_i64 _ (by omega) (by omega)]
    have := run_slice_string (P := Ybaf.prog) wx 9 T .i64 .i64 (k : Int) ((k : Int) + 1) Ybaf.underlying9 (by omega) (by omega) (by omega)
    rw [this]
    congr 2

theorem base_pow {d : Nat} {B : Int} (hB : IsBase d B) {v : Nat} (h : (v : Int) < B) : v < 2 ^ d := by
  rcases hB with ⟨h1, rfl⟩ | ⟨h1, rfl⟩ | ⟨h1, rfl⟩ | ⟨h1, rfl⟩
  · have : d = 1 := by omega
    subst this; omega
  · have : d = 2 := by omega
    subst this; omega
  · have : d = 3 := by omega
    subst this; omega
  · have : d = 4 := by omega
    subst this; omega

theorem PI.set {w : World} {W d : Int} {N : Nat} {wr : World} (h : PI w W d N wr) (M : Nat) : PI w W d M (wr.setRow (w.heap.size + 1 + 1 + 1) (idC M)) :=
  ⟨(setRow_other _ _ _ _ (by omega)).trans h.sp, (setRow_other _ _ _ _ (by omega)).trans h.res, setRow_heap _ _ _ _ 28 (0, 0) h.x, below_setRow h.bel (by omega) _⟩

/-- The results of a function whose first result lies in a row, the second in a slot. -/
theorem results_row_tmp {P : Program} {fn : Func} {p u : Tmp} {ty : TypeId} (h : fn.results = #[.cell p ty, .tmp u]) (tmps : Array Value) (w : World) (g : Nat) (t : TypeId) (cs : Array Value) (fr : Nat × Nat) (d : TypeDesc) (x : Value)
    (hp : tmps.getD p undef = .pointer (some ⟨g, 0, none⟩)) (hx : tmps.getD u undef = x) (hg : w.heap[g]? = some (.cells cs t fr))
    (hu : P.underlying ty = some d) (hd : (match d with | .struct _ | .array _ _ => true | _ => false) = true) (hi : (P.info? ty).map (·.size) = some cs.size) :
    (results fn tmps).run P w = .ok (.tuple #[.agg cs, x]) w := by
  rw [results_cell_tmp h, hp, hx]
  simp [asAddr, run_loadVar_row w g t ty cs fr d hg hu hd hi, Result.andThen]

theorem base_b (W d B : Int) (hB : IsBase d B) (w : World) :
    Calls Ybaf.prog 10 #[.agg #[.int .i64 W, .int .i64 d]] w fun e w' => e = .returned (.int .i64 B) ∧ Below w.heap.size w w' := by
  refine (base_any W d B hB w).mono ?_
  rintro e w' ⟨rfl, rfl⟩
  exact ⟨rfl, (Below.refl _ _).alloc (Nat.le_refl _) _⟩

set_option maxRecDepth 100000 in
set_option maxHeartbeats 1000000 in
theorem Parse_ok (T : ByteArray) (n d : Nat) (B : Int) (hB : IsBase d B) (hd : 1 ≤ d) (hd4 : d ≤ 4) (hn : 1 ≤ n) (hW : n * d ≤ 256) (hT : T.size = n) (hall : ∀ k, k < n → (dval (byteN T k) : Int) < B) (w : World) :
    Calls Ybaf.prog 5 #[.agg (spaceC (n * d : Nat) d), .string T] w fun e w' => e = .returned (.tuple #[.agg (idC (num (n * d) d ((List.range n).map fun k => dval (byteN T k)) n)), .nilIface]) ∧ Below w.heap.size w w' := by
  obtain ⟨W, hWe⟩ : ∃ W, W = n * d := ⟨_, rfl⟩
  obtain ⟨vs, hvs⟩ : ∃ vs, vs = (List.range n).map fun k => dval (byteN T k) := ⟨_, rfl⟩
  rw [← hvs, ← hWe]
  have hq : (W : Int) / d = n := by
    rw [hWe, Int.natCast_mul]
    exact Int.mul_ediv_cancel _ (by omega)
  have hn256 : n ≤ 256 := Nat.le_trans (Nat.le_mul_of_pos_right n hd) hW
  have hW256 : W ≤ 256 := by omega
  have HA := hide hall
  have HV := hide hvs
  have HW := hide hWe
  clear hall hvs hWe hW
  go_enter Ybaf.func5, Ybaf.ntmps5
  have K : ∀ a b, spaceC a b = #[.int .i64 a, .int .i64 b] := fun _ _ => rfl
  rw [K]
  clear K
  go_wp2_with fail
  refine (digits_any W d (by omega) (by omega) (by omega) (by omega) _).mono ?_
  rintro e w' ⟨rfl, rfl⟩
  go_wp2_with fail
  have P0 : PI w W d (num W d vs 0) ((((w.alloc (.cells #[.int .i64 W, .int .i64 d] 24)).alloc (.cells #[.int .u64 0, .int .u64 0, .int .u64 0, .int .u64 0] 28)).alloc (.cells (spaceC W d) 24)).alloc (.cells #[.int .u64 0, .int .u64 0, .int .u64 0, .int .u64 0] 28)) :=
    ⟨(four w _ _ _ _).1, by rw [idC_zero]; exact (four w _ _ _ _).2.1, by rw [show num W d vs 0 = 0 from rfl, idC_zero]; exact (four w _ _ _ _).2.2.2, four_below w _ _ _ _⟩
  have HP := hide P0
  clear P0
  go_loopw [28] (fun i wr => ∃ k : Nat, k ≤ n ∧ i = .int .i64 k ∧ PI w W d (num W d vs k) wr) (fun i _ => n - (intOf i).toNat)
  case atStart => exact ⟨0, Nat.zero_le _, rfl, HP.out⟩
  case round =>
    obtain ⟨k, hk, rfl, hP⟩ := hrel
    clear HP
    have HP := hide hP
    by_cases hlt : k < n
    · have c0 : wr.cell? ⟨w.heap.size, 0, none⟩ = some (.int .i64 W) := row_cell hP.sp
      have c1 : wr.cell? ⟨w.heap.size, 1, none⟩ = some (.int .i64 d) := row_cell hP.sp
      have z0 : w.heap.size < wr.heap.size := (Array.getElem?_eq_some_iff.1 hP.sp).1
      obtain ⟨sub, hs1, hs0, hsr⟩ := sub_run T k (by omega) (by omega)
      have hvB := HA.out k hlt
      have hv2 := base_pow hB hvB
      have hle : (k + 1) * d ≤ W := by rw [HW.out]; exact Nat.mul_le_mul_right d hlt
      obtain ⟨low, hlow⟩ : ∃ low, low = W - (k + 1) * d := ⟨_, rfl⟩
      have hlow1 : low + (k + 1) * d = W := by omega
      have hal : low % d = 0 := by rw [hlow, HW.out, ← Nat.sub_mul]; exact Nat.mul_mod_left _ _
      have hN : ∀ b, b < low + d → (num W d vs k).testBit b = false := by
        intro b hb
        apply num_low
        have : (k + 1) * d = k * d + d := by rw [Nat.add_mul, Nat.one_mul]
        omega
      have hnum : num W d vs (k + 1) = put (num W d vs k) (dval (byteN T k)) low := by
        rw [num, hlow]
        congr 1
        rw [HV.out]
        simp [List.getD, hlt]
      obtain ⟨v, hv⟩ : ∃ v, dval (byteN T k) = v := ⟨_, rfl⟩
      rw [hv] at hvB hv2 hnum
      obtain ⟨N, hNe⟩ : ∃ N, num W d vs k = N := ⟨_, rfl⟩
      rw [hNe] at hN hnum hP HP
      have X1 := hide hs0
      have X2 := hide hv
      have X3 := hide hlow1
      have X4 := hide hal
      have X5 := hide hN
      have X6 := hide hnum
      have X7 := hide hv2
      have hv16 : v < 16 := Nat.lt_of_lt_of_le hv2 (Nat.pow_le_pow_right (n := 2) (by decide) hd4)
      clear hP hs0 hv hlow1 hal hN hnum hlow hle hNe hv2
      go_wp2_with fail
      go_region_held3 (fun w' => w'.cell? ⟨w.heap.size, 0, none⟩ = some (.int .i64 W) ∧ w'.cell? ⟨w.heap.size, 1, none⟩ = some (.int .i64 d)) ((first | exact ⟨c0, c1⟩ | exact ⟨e0, e1⟩ | exact ⟨d0, d1⟩)) ((first
        | (go_at_call 10; refine (base_b W d B hB _).mono ?_; rintro e u ⟨rfl, hu⟩
           have y0 : w.heap.size < u.heap.size := Nat.lt_of_lt_of_le z0 hu.size
           have d0 : u.cell? ⟨w.heap.size, 0, none⟩ = some (.int .i64 W) := (hu.cell (p := ⟨w.heap.size, 0, none⟩) z0).trans c0
           have d1 : u.cell? ⟨w.heap.size, 1, none⟩ = some (.int .i64 d) := (hu.cell (p := ⟨w.heap.size, 1, none⟩) z0).trans c1)
        | (go_at_call 11; refine (parse_ok sub (byteN T k) v B d hB hs1 X1.out X2.out hvB _).mono ?_; rintro e u2 ⟨rfl, hu2⟩
           have e0 : u2.cell? ⟨w.heap.size, 0, none⟩ = some (.int .i64 W) := (hu2.cell (p := ⟨w.heap.size, 0, none⟩) y0).trans d0
           have e1 : u2.cell? ⟨w.heap.size, 1, none⟩ = some (.int .i64 d) := (hu2.cell (p := ⟨w.heap.size, 1, none⟩) y0).trans d1)))
      have HP2 : Hid (PI w W d N u2) := (HP.out.below (((Below.refl _ _).drew).trans hu)).below hu2
      clear c0 c1 d0 d1 e0 e1 hu hu2 HP
      go_wp2_with (first
        | (refine wpList_load_row rfl 24 (.tmp 2) rfl _ rfl 24 _ (0, 0) _ HP2.out.sp Ybaf.underlying24 rfl info24 ?_)
        | (refine wpList_load_row rfl 28 (.tmp 6) rfl _ rfl 28 _ (0, 0) _ HP2.out.x Ybaf.underlying28 rfl info28 ?_))
      refine (with_any W d k v N low hd hd4 hW256 (by omega) X3.out X4.out X7.out X5.out _).mono ?_
      rintro e u3 ⟨rfl, hu3⟩
      have HP3 : Hid (PI w W d N u3) := HP2.out.below hu3
      clear hu3 HP2
      go_wp2_with (refine wpList_store_row rfl 28 (.tmp 6) (.tmp 61) rfl _ _ rfl rfl 28 _ HP3.out.x info28 rfl (all_one rfl) ?_)
      go_roundw
      case rel => exact ⟨k + 1, hlt, by simp, by rw [X6.out]; exact HP3.out.set _⟩
      case measure => simp [intOf]; omega
    · have hkn : k = n := by omega
      subst hkn
      have HP2 := HP
      clear hP HP
      go_wp2_with (first
        | (refine wpList_load_row rfl 28 (.tmp 6) rfl _ rfl 28 _ (0, 0) _ HP2.out.x Ybaf.underlying28 rfl info28 ?_)
        | (refine wpList_store_row rfl 28 (.tmp 4) (.tmp 63) rfl _ _ rfl rfl 28 _ HP2.out.res info28 rfl (all_one rfl) ?_))
      exact bodyPost_ret (results_row_tmp rfl _ _ _ 28 _ (0, 0) _ _ rfl rfl (setRow_heap _ _ _ _ 28 (0, 0) HP2.out.res) Ybaf.underlying28 rfl info28) rfl ⟨rfl, below_setRow HP2.out.bel (by omega) _⟩
end Go.Proofs.YbulkbdxgFmt.W
