/-
  Parse of a text with a byte that is no digit of the base.
-/
import Derived.Test.YbulkbdxgFmtLen
import Derived.Test.YbulkbdxgFmtUintB
import Derived.Test.YbulkbdxgFmtErr
namespace Go.Proofs.YbulkbdxgFmt.W
open Go.RowKit
open Go.Extern.Stop Go.Stop Go.Extern
open Go.Proofs.YbulkbdxgFmt.P

set_option maxRecDepth 100000 in
set_option maxHeartbeats 1000000 in
theorem parse_bad (s : ByteArray) (c : Nat) (B d : Int) (hB : IsBase d B) (hsz : s.size = 1) (h0 : (s.data.toList.getD 0 0).toNat = c) (hge : B ≤ (dval c : Int)) (te : TypeId) (pe : Value) (w : World) (hv : w.cell? ⟨0, 0, none⟩ = some (.iface te pe)) :
    Calls Ybaf.prog 11 #[.string s, .int .i64 B, .int .i64 8] w fun e w' => (∃ N, e = .returned (.tuple #[.int .u64 0, .iface 57 (.pointer (some ⟨N, 0, none⟩))])) ∧ Below w.heap.size w w' := by
  have H0 := hide h0
  have HG := hide hge
  have HV := hide hv
  clear h0 hge hv
  go_enter Ybaf.func11, Ybaf.ntmps11
  go_wp2_with fail
  refine (uint_bad s c B d hB hsz H0.out HG.out _).mono ?_
  rintro e w' ⟨rfl, hb⟩
  have HB := hide hb
  have HV2 : Hid (w'.cell? ⟨0, 0, none⟩ = some (.iface te pe)) := (hb.cell (p := ⟨0, 0, none⟩) (World.block_lt_of_cell? _ _ HV.out)).trans HV.out
  clear hb
  go_wp2_with fail
  refine (toError_any _ s (by omega) (by omega) B 8 te pe _ HV2.out).mono ?_
  rintro e w2 ⟨⟨N, rfl⟩, hb2⟩
  have HB2 : Hid (Below w.heap.size w w2) := HB.out.trans (hb2.mono HB.out.size)
  clear hb2
  go_wp2
  go_ret2
  exact ⟨⟨_, rfl⟩, HB2.out⟩

set_option maxRecDepth 100000 in
set_option maxHeartbeats 1000000 in
theorem Parse_bad (F : Interp) (T : ByteArray) (n d : Nat) (B : Int) (hB : IsBase d B) (hd : 1 ≤ d) (hd4 : d ≤ 4) (hn : 1 ≤ n) (hW : n * d ≤ 256) (hT : T.size = n) (m : Nat) (hm : m < n) (hall : ∀ k, k < m → (dval (byteN T k) : Int) < B) (hbad : B ≤ (dval (byteN T m) : Int)) (te : TypeId) (pe : Value) (w : World) (hF : Told F w) (hv : w.cell? ⟨0, 0, none⟩ = some (.iface te pe)) :
    Calls Ybaf.prog 5 #[.agg (spaceC (n * d : Nat) d), .string T] w fun e w' => (∃ N, e = .returned (.tuple #[.agg (idC 0), .iface 51 (.pointer (some ⟨N, 0, none⟩))])) ∧ Below w.heap.size w w' := by
  obtain ⟨W, hWe⟩ : ∃ W, W = n * d := ⟨_, rfl⟩
  obtain ⟨vs, hvs⟩ : ∃ vs, vs = (List.range n).map fun k => dval (byteN T k) := ⟨_, rfl⟩
  rw [← hWe]
  have hq : (W : Int) / d = n := by
    rw [hWe, Int.natCast_mul]
    exact Int.mul_ediv_cancel _ (by omega)
  have hn256 : n ≤ 256 := Nat.le_trans (Nat.le_mul_of_pos_right n hd) hW
  have hW256 : W ≤ 256 := by omega
  have HA := hide hall
  have HX := hide hbad
  have HF := hide hF
  have HG := hide hv
  clear hbad hF hv
  have HV := hide hvs
  have HW := hide hWe
  clear hall hvs hWe hW
  go_enter Ybaf.func5, Ybaf.ntmps5
  have K : ∀ a b, spaceC a b = #[.int .i64 a, .int .i64 b] := fun _ _ => rfl
  rw [K]
  clear K
  go_wp2_with fail
  refine (digits_any W d (by omega) (by omega) (by omega) (by omega) _).mono ?_
  rintro e w' ⟨rfl, rfl⟩
  go_wp2_with fail
  have P0 : PI w W d (num W d vs 0) ((((w.alloc (.cells #[.int .i64 W, .int .i64 d] 24)).alloc (.cells #[.int .u64 0, .int .u64 0, .int .u64 0, .int .u64 0] 28)).alloc (.cells (spaceC W d) 24)).alloc (.cells #[.int .u64 0, .int .u64 0, .int .u64 0, .int .u64 0] 28)) :=
    ⟨(four w _ _ _ _).1, by rw [idC_zero]; exact (four w _ _ _ _).2.1, by rw [show num W d vs 0 = 0 from rfl, idC_zero]; exact (four w _ _ _ _).2.2.2, four_below w _ _ _ _⟩
  have HP := hide P0
  clear P0
  go_loopw [28] (fun i wr => ∃ k : Nat, k ≤ m ∧ i = .int .i64 k ∧ PI w W d (num W d vs k) wr) (fun i _ => n - (intOf i).toNat)
  case atStart => exact ⟨0, Nat.zero_le _, rfl, HP.out⟩
  case round =>
    obtain ⟨k, hk, rfl, hP⟩ := hrel
    clear HP
    have HP := hide hP
    by_cases hlt : k < m
    · have c0 : wr.cell? ⟨w.heap.size, 0, none⟩ = some (.int .i64 W) := row_cell hP.sp
      have c1 : wr.cell? ⟨w.heap.size, 1, none⟩ = some (.int .i64 d) := row_cell hP.sp
      have z0 : w.heap.size < wr.heap.size := (Array.getElem?_eq_some_iff.1 hP.sp).1
      obtain ⟨sub, hs1, hs0, hsr⟩ := sub_run T k (by omega) (by omega)
      have hvB := HA.out k hlt
      have hv2 := base_pow hB hvB
      have hle : (k + 1) * d ≤ W := by rw [HW.out]; exact Nat.mul_le_mul_right d (show k + 1 ≤ n by omega)
      obtain ⟨low, hlow⟩ : ∃ low, low = W - (k + 1) * d := ⟨_, rfl⟩
      have hlow1 : low + (k + 1) * d = W := by omega
      have hal : low % d = 0 := by rw [hlow, HW.out, ← Nat.sub_mul]; exact Nat.mul_mod_left _ _
      have hN : ∀ b, b < low + d → (num W d vs k).testBit b = false := by
        intro b hb
        apply num_low
        have : (k + 1) * d = k * d + d := by rw [Nat.add_mul, Nat.one_mul]
        omega
      have hnum : num W d vs (k + 1) = put (num W d vs k) (dval (byteN T k)) low := by
        rw [num, hlow]
        congr 1
        rw [HV.out]
        have hkn : k < n := by omega
        simp [List.getD, hkn]
      obtain ⟨v, hv⟩ : ∃ v, dval (byteN T k) = v := ⟨_, rfl⟩
      rw [hv] at hvB hv2 hnum
      obtain ⟨N, hNe⟩ : ∃ N, num W d vs k = N := ⟨_, rfl⟩
      rw [hNe] at hN hnum hP HP
      have X1 := hide hs0
      have X2 := hide hv
      have X3 := hide hlow1
      have X4 := hide hal
      have X5 := hide hN
      have X6 := hide hnum
      have X7 := hide hv2
      have hv16 : v < 16 := Nat.lt_of_lt_of_le hv2 (Nat.pow_le_pow_right (n := 2) (by decide) hd4)
      clear hP hs0 hv hlow1 hal hN hnum hlow hle hNe hv2
      go_wp2_with fail
      go_region_held3 (fun w' => w'.cell? ⟨w.heap.size, 0, none⟩ = some (.int .i64 W) ∧ w'.cell? ⟨w.heap.size, 1, none⟩ = some (.int .i64 d)) ((first | exact ⟨c0, c1⟩ | exact ⟨e0, e1⟩ | exact ⟨d0, d1⟩)) ((first
        | (go_at_call 10; refine (base_b W d B hB _).mono ?_; rintro e u ⟨rfl, hu⟩
           have y0 : w.heap.size < u.heap.size := Nat.lt_of_lt_of_le z0 hu.size
           have d0 : u.cell? ⟨w.heap.size, 0, none⟩ = some (.int .i64 W) := (hu.cell (p := ⟨w.heap.size, 0, none⟩) z0).trans c0
           have d1 : u.cell? ⟨w.heap.size, 1, none⟩ = some (.int .i64 d) := (hu.cell (p := ⟨w.heap.size, 1, none⟩) z0).trans c1)
        | (go_at_call 11; refine (parse_ok sub (byteN T k) v B d hB hs1 X1.out X2.out hvB _).mono ?_; rintro e u2 ⟨rfl, hu2⟩
           have e0 : u2.cell? ⟨w.heap.size, 0, none⟩ = some (.int .i64 W) := (hu2.cell (p := ⟨w.heap.size, 0, none⟩) y0).trans d0
           have e1 : u2.cell? ⟨w.heap.size, 1, none⟩ = some (.int .i64 d) := (hu2.cell (p := ⟨w.heap.size, 1, none⟩) y0).trans d1)))
      have HP2 : Hid (PI w W d N u2) := (HP.out.below (((Below.refl _ _).drew).trans hu)).below hu2
      clear c0 c1 d0 d1 e0 e1 hu hu2 HP
      go_wp2_with (first
        | (refine wpList_load_row rfl 24 (.tmp 2) rfl _ rfl 24 _ (0, 0) _ HP2.out.sp Ybaf.underlying24 rfl info24 ?_)
        | (refine wpList_load_row rfl 28 (.tmp 6) rfl _ rfl 28 _ (0, 0) _ HP2.out.x Ybaf.underlying28 rfl info28 ?_))
      refine (with_any W d k v N low hd hd4 hW256 (by omega) X3.out X4.out X7.out X5.out _).mono ?_
      rintro e u3 ⟨rfl, hu3⟩
      have HP3 : Hid (PI w W d N u3) := HP2.out.below hu3
      clear hu3 HP2
      go_wp2_with (refine wpList_store_row rfl 28 (.tmp 6) (.tmp 61) rfl _ _ rfl rfl 28 _ HP3.out.x info28 rfl (all_one rfl) ?_)
      go_roundw
      case rel => exact ⟨k + 1, hlt, by simp, by rw [X6.out]; exact HP3.out.set _⟩
      case measure => simp [intOf]; omega
    · have hkm : k = m := by omega
      subst hkm
      have c0 : wr.cell? ⟨w.heap.size, 0, none⟩ = some (.int .i64 W) := row_cell hP.sp
      have c1 : wr.cell? ⟨w.heap.size, 1, none⟩ = some (.int .i64 d) := row_cell hP.sp
      have z0 : w.heap.size < wr.heap.size := (Array.getElem?_eq_some_iff.1 hP.sp).1
      obtain ⟨sub, hs1, hs0, hsr⟩ := sub_run T k (by omega) (by omega)
      have X1 := hide hs0
      have zg : 0 < w.heap.size := World.block_lt_of_cell? _ _ HG.out
      have G1 : Hid (wr.drew.cell? ⟨0, 0, none⟩ = some (.iface te pe)) := (hP.bel.drew.cell (p := ⟨0, 0, none⟩) zg).trans HG.out
      have hP3 : P3 w W d wr := ⟨hP.sp, hP.res, hP.bel⟩
      have HP3 := hide hP3
      have HT : Hid (Told F wr) := HF.out.below hP.bel
      clear hP HP hs0 hP3
      go_wp2_with fail
      go_region_held3 (fun w' => w'.cell? ⟨w.heap.size, 0, none⟩ = some (.int .i64 W) ∧ w'.cell? ⟨w.heap.size, 1, none⟩ = some (.int .i64 d)) ((first | exact ⟨c0, c1⟩ | exact ⟨e0, e1⟩ | exact ⟨d0, d1⟩)) ((first
        | (go_at_call 10; refine (base_b W d B hB _).mono ?_; rintro e u ⟨rfl, hu⟩
           have y0 : w.heap.size < u.heap.size := Nat.lt_of_lt_of_le z0 hu.size
           have d0 : u.cell? ⟨w.heap.size, 0, none⟩ = some (.int .i64 W) := (hu.cell (p := ⟨w.heap.size, 0, none⟩) z0).trans c0
           have d1 : u.cell? ⟨w.heap.size, 1, none⟩ = some (.int .i64 d) := (hu.cell (p := ⟨w.heap.size, 1, none⟩) z0).trans c1)
        | (go_at_call 11; refine (parse_bad sub (byteN T k) B d hB hs1 X1.out HX.out te pe u ((hu.cell (p := ⟨0, 0, none⟩) (World.block_lt_of_cell? _ _ G1.out)).trans G1.out)).mono ?_; rintro e u2 ⟨⟨N0, rfl⟩, hu2⟩
           have e0 : u2.cell? ⟨w.heap.size, 0, none⟩ = some (.int .i64 W) := (hu2.cell (p := ⟨w.heap.size, 0, none⟩) y0).trans d0
           have e1 : u2.cell? ⟨w.heap.size, 1, none⟩ = some (.int .i64 d) := (hu2.cell (p := ⟨w.heap.size, 1, none⟩) y0).trans d1)))
      have HP4 : Hid (P3 w W d u2) := (HP3.out.below (((Below.refl _ _).drew).trans hu)).below hu2
      have HT2 : Hid (Told F u2.drew) := HF.out.below HP4.out.bel.drew
      clear c0 c1 d0 d1 y0 z0 hu hu2 HP3 HT hsr
      have x0 : w.heap.size < u2.heap.size := (Array.getElem?_eq_some_iff.1 HP4.out.sp).1
      have hTk : k < T.size := by omega
      go_wp2_with fail
      have k0 : u2.drew.cell? ⟨w.heap.size, 0, none⟩ = some (.int .i64 W) := e0
      have k1 : u2.drew.cell? ⟨w.heap.size, 1, none⟩ = some (.int .i64 d) := e1
      go_region_held3 (fun w' => w'.cell? ⟨w.heap.size, 0, none⟩ = some (.int .i64 W) ∧ w'.cell? ⟨w.heap.size, 1, none⟩ = some (.int .i64 d)) ((first | with_reducible exact ⟨e0, e1⟩ | with_reducible exact ⟨k0, k1⟩ | with_reducible exact ⟨d0, d1⟩ | with_reducible exact ⟨keepA d0 _, keepA d1 _⟩ | with_reducible exact ⟨g0, g1⟩ | (go_simp; done))) ((first
        | (go_at_call 10; refine (base_b W d B hB _).mono ?_; rintro e u3 ⟨rfl, hu3⟩
           have d0 : u3.cell? ⟨w.heap.size, 0, none⟩ = some (.int .i64 W) := (hu3.cell (p := ⟨w.heap.size, 0, none⟩) x0).trans e0
           have d1 : u3.cell? ⟨w.heap.size, 1, none⟩ = some (.int .i64 d) := (hu3.cell (p := ⟨w.heap.size, 1, none⟩) x0).trans e1)
        | (go_at_call 9; refine (errorf1_s F T _ B u3 (HT2.out.below hu3)).mono ?_; rintro e u4 ⟨⟨N, rfl⟩, hu4⟩
           have HP5 : Hid (P3 w W d u4) := (HP4.out.below (((Below.refl _ _).drew).trans hu3)).below hu4
           have g0 : u4.cell? ⟨w.heap.size, 0, none⟩ = some (.int .i64 W) := row_cell HP5.out.sp
           have g1 : u4.cell? ⟨w.heap.size, 1, none⟩ = some (.int .i64 d) := row_cell HP5.out.sp
           have r0 : u4.cell? ⟨w.heap.size + 1, 0, none⟩ = some (.int .u64 0) := (row_cell HP5.out.res).trans (idC_zero_get 0 (by decide))
           have r1 : u4.cell? ⟨w.heap.size + 1, 1, none⟩ = some (.int .u64 0) := (row_cell HP5.out.res).trans (idC_zero_get 1 (by decide))
           have r2 : u4.cell? ⟨w.heap.size + 1, 2, none⟩ = some (.int .u64 0) := (row_cell HP5.out.res).trans (idC_zero_get 2 (by decide))
           have r3 : u4.cell? ⟨w.heap.size + 1, 3, none⟩ = some (.int .u64 0) := (row_cell HP5.out.res).trans (idC_zero_get 3 (by decide))
           have f0 : u4.frozen? ⟨w.heap.size + 1, 0, none⟩ = false := row_free HP5.out.res
           have f1 : u4.frozen? ⟨w.heap.size + 1, 1, none⟩ = false := row_free HP5.out.res
           have f2 : u4.frozen? ⟨w.heap.size + 1, 2, none⟩ = false := row_free HP5.out.res
           have f3 : u4.frozen? ⟨w.heap.size + 1, 3, none⟩ = false := row_free HP5.out.res)))
      all_goals
        have HP6 := hide HP5.out.zeros
        clear r0 r1 r2 r3 f0 f1 f2 f3 g0 g1 e0 e1 d0 d1 k0 k1 hu3 hu4
        generalize ((((u4.setCell ⟨w.heap.size + 1, 0, none⟩ (.int .u64 0)).setCell ⟨w.heap.size + 1, 1, none⟩ (.int .u64 0)).setCell ⟨w.heap.size + 1, 2, none⟩ (.int .u64 0)).setCell ⟨w.heap.size + 1, 3, none⟩ (.int .u64 0)) = u5 at HP6 ⊢
        go_wp2_with fail
        exact bodyPost_ret (results_row_tmp rfl _ _ _ 28 _ (0, 0) _ _ rfl rfl HP6.out.res Ybaf.underlying28 rfl info28) rfl ⟨⟨N, rfl⟩, HP6.out.bel⟩
end Go.Proofs.YbulkbdxgFmt.W
