/-
  Parse of a text of another length.
-/
import Derived.Test.YbulkbdxgFmtParse
import Derived.Test.YbulkbdxgFmtErrorf
namespace Go.Proofs.YbulkbdxgFmt.W
open Go.RowKit
open Go.Extern.Stop Go.Stop Go.Extern
open Go.Proofs.YbulkbdxgFmt.P

theorem digits_b (W d q : Int) (hq : W / d = q) (hd : 1 ≤ d) (hd4 : d ≤ 4) (h0 : 0 ≤ W) (h1 : W ≤ 256) (w : World) :
    Calls Ybaf.prog 8 #[.agg #[.int .i64 W, .int .i64 d]] w fun e w' => e = .returned (.int .i64 q) ∧ Below w.heap.size w w' := by
  subst hq
  refine (digits_any W d hd hd4 h0 h1 w).mono ?_
  rintro e w' ⟨rfl, rfl⟩
  exact ⟨rfl, (Below.refl _ _).alloc (Nat.le_refl _) _⟩

/-- Where Parse stands ahead of its loop. -/
structure P3 (w : World) (W d : Int) (wr : World) : Prop where
  sp : wr.heap[w.heap.size]? = some (.cells (spaceC W d) 24 (0, 0))
  res : wr.heap[w.heap.size + 1]? = some (.cells (idC 0) 28 (0, 0))
  bel : Below w.heap.size w wr

theorem P3.below {w : World} {W d : Int} {wr wr' : World} (h : P3 w W d wr) (hb : Below wr.heap.size wr wr') : P3 w W d wr' :=
  ⟨(hb.block _ (Array.getElem?_eq_some_iff.1 h.sp).1).trans h.sp, (hb.block _ (Array.getElem?_eq_some_iff.1 h.res).1).trans h.res, h.bel.trans (hb.mono h.bel.size)⟩

theorem keepA {w : World} {a : Addr} {v : Value} (h : w.cell? a = some v) (o : Obj) : (w.alloc o).cell? a = some v :=
  (((Below.refl w.heap.size w).alloc (Nat.le_refl _) o).cell (p := a) (World.block_lt_of_cell? _ _ h)).trans h
theorem idC_zero_get (i : Nat) (hi : i < 4) : (idC 0)[i]? = some (.int .u64 0) := by
  rw [idC_get _ _ hi, wd_zero]
  rfl

theorem idC_zero_set (i : Nat) (hi : i < 4) : (idC 0).setIfInBounds i (.int .u64 0) = idC 0 := by
  rw [idC_zero]
  have : i = 0 ∨ i = 1 ∨ i = 2 ∨ i = 3 := by omega
  rcases this with rfl | rfl | rfl | rfl <;> rfl
theorem P3.cell {w : World} {W d : Int} {wr : World} (h : P3 w W d wr) (i : Nat) (hi : i < 4) : P3 w W d (wr.setCell ⟨w.heap.size + 1, i, none⟩ (.int .u64 0)) := by
  rw [setCell_eq_setRow wr _ _ _ 28 (0, 0) _ h.res, idC_zero_set i hi]
  exact ⟨(setRow_other _ _ _ _ (by omega)).trans h.sp, setRow_heap _ _ _ _ 28 (0, 0) h.res, below_setRow h.bel (by omega) _⟩
theorem P3.zeros {w : World} {W d : Int} {wr : World} (h : P3 w W d wr) :
    P3 w W d ((((wr.setCell ⟨w.heap.size + 1, 0, none⟩ (.int .u64 0)).setCell ⟨w.heap.size + 1, 1, none⟩ (.int .u64 0)).setCell ⟨w.heap.size + 1, 2, none⟩ (.int .u64 0)).setCell ⟨w.heap.size + 1, 3, none⟩ (.int .u64 0)) :=
  (((h.cell 0 (by decide)).cell 1 (by decide)).cell 2 (by decide)).cell 3 (by decide)

set_option maxRecDepth 100000 in
set_option maxHeartbeats 1000000 in
theorem Parse_len (F : Interp) (T : ByteArray) (W d q B : Int) (hB : IsBase d B) (hd : 1 ≤ d) (hd4 : d ≤ 4) (h0 : 0 ≤ W) (hW : W ≤ 256) (hq : W / d = q) (_hT : T.size ≤ 4096) (hne : (T.size : Int) ≠ q) (w : World) (hF : Told F w) :
    Calls Ybaf.prog 5 #[.agg (spaceC W d), .string T] w fun e w' => (∃ N, e = .returned (.tuple #[.agg (idC 0), .iface 51 (.pointer (some ⟨N, 0, none⟩))])) ∧ Below w.heap.size w w' := by
  have HQ := hide hq
  have HF := hide hF
  clear hF
  go_enter Ybaf.func5, Ybaf.ntmps5
  have K : ∀ a b, spaceC a b = #[.int .i64 a, .int .i64 b] := fun _ _ => rfl
  rw [K]
  clear K hq
  go_wp2_with fail
  refine (digits_b W d q HQ.out hd hd4 h0 hW _).mono ?_
  rintro e v ⟨rfl, hv⟩
  have HP : Hid (P3 w W d v) := by
    have z : P3 w W d ((w.alloc (.cells #[.int .i64 W, .int .i64 d] 24)).alloc (.cells #[.int .u64 0, .int .u64 0, .int .u64 0, .int .u64 0] 28)) :=
      ⟨by rw [heap_past _ _ _ (by simp), heap_top _ _ _ rfl]; rfl, by rw [idC_zero, heap_top _ _ _ (by simp)], ((Below.refl _ _).alloc (Nat.le_refl _) _).alloc (by simp) _⟩
    exact z.below hv
  clear hv
  go_wp2_with fail
  have c0 : v.cell? ⟨w.heap.size, 0, none⟩ = some (.int .i64 W) := row_cell HP.out.sp
  have c1 : v.cell? ⟨w.heap.size, 1, none⟩ = some (.int .i64 d) := row_cell HP.out.sp
  have k0 : v.drew.cell? ⟨w.heap.size, 0, none⟩ = some (.int .i64 W) := c0
  have k1 : v.drew.cell? ⟨w.heap.size, 1, none⟩ = some (.int .i64 d) := c1
  have z0 : w.heap.size < v.heap.size := (Array.getElem?_eq_some_iff.1 HP.out.sp).1
  have HF2 : Hid (Told F v.drew) := HF.out.below HP.out.bel.drew
  go_region_held3 (fun w' => w'.cell? ⟨w.heap.size, 0, none⟩ = some (.int .i64 W) ∧ w'.cell? ⟨w.heap.size, 1, none⟩ = some (.int .i64 d)) ((first | with_reducible exact ⟨c0, c1⟩ | with_reducible exact ⟨k0, k1⟩ | with_reducible exact ⟨d0, d1⟩ | with_reducible exact ⟨e0, e1⟩ | with_reducible exact ⟨keepA e0 _, keepA e1 _⟩ | with_reducible exact ⟨g0, g1⟩ | (go_simp; done))) ((first
    | (go_at_call 8; refine (digits_b W d q HQ.out hd hd4 h0 hW _).mono ?_; rintro e u ⟨rfl, hu⟩
       have y0 : w.heap.size < u.heap.size := Nat.lt_of_lt_of_le z0 hu.size
       have d0 : u.cell? ⟨w.heap.size, 0, none⟩ = some (.int .i64 W) := (hu.cell (p := ⟨w.heap.size, 0, none⟩) z0).trans c0
       have d1 : u.cell? ⟨w.heap.size, 1, none⟩ = some (.int .i64 d) := (hu.cell (p := ⟨w.heap.size, 1, none⟩) z0).trans c1)
    | (go_at_call 10; refine (base_b W d B hB _).mono ?_; rintro e u2 ⟨rfl, hu2⟩
       have x0 : w.heap.size < u2.heap.size := Nat.lt_of_lt_of_le y0 hu2.size
       have e0 : u2.cell? ⟨w.heap.size, 0, none⟩ = some (.int .i64 W) := (hu2.cell (p := ⟨w.heap.size, 0, none⟩) y0).trans d0
       have e1 : u2.cell? ⟨w.heap.size, 1, none⟩ = some (.int .i64 d) := (hu2.cell (p := ⟨w.heap.size, 1, none⟩) y0).trans d1)
    | (go_at_call 9; refine (errorf0_s F T q B u2 ((HF2.out.below hu).below hu2)).mono ?_; rintro e u3 ⟨⟨N, rfl⟩, hu3⟩
       have HP3 : Hid (P3 w W d u3) := ((HP.out.below (((Below.refl _ _).drew).trans hu)).below hu2).below hu3
       have g0 : u3.cell? ⟨w.heap.size, 0, none⟩ = some (.int .i64 W) := row_cell HP3.out.sp
       have g1 : u3.cell? ⟨w.heap.size, 1, none⟩ = some (.int .i64 d) := row_cell HP3.out.sp
       have r0 : u3.cell? ⟨w.heap.size + 1, 0, none⟩ = some (.int .u64 0) := (row_cell HP3.out.res).trans (idC_zero_get 0 (by decide))
       have r1 : u3.cell? ⟨w.heap.size + 1, 1, none⟩ = some (.int .u64 0) := (row_cell HP3.out.res).trans (idC_zero_get 1 (by decide))
       have r2 : u3.cell? ⟨w.heap.size + 1, 2, none⟩ = some (.int .u64 0) := (row_cell HP3.out.res).trans (idC_zero_get 2 (by decide))
       have r3 : u3.cell? ⟨w.heap.size + 1, 3, none⟩ = some (.int .u64 0) := (row_cell HP3.out.res).trans (idC_zero_get 3 (by decide))
       have f0 : u3.frozen? ⟨w.heap.size + 1, 0, none⟩ = false := row_free HP3.out.res
       have f1 : u3.frozen? ⟨w.heap.size + 1, 1, none⟩ = false := row_free HP3.out.res
       have f2 : u3.frozen? ⟨w.heap.size + 1, 2, none⟩ = false := row_free HP3.out.res
       have f3 : u3.frozen? ⟨w.heap.size + 1, 3, none⟩ = false := row_free HP3.out.res)))
  have HP4 := hide HP3.out.zeros
  clear r0 r1 r2 r3 f0 f1 f2 f3 g0 g1 e0 e1 d0 d1 c0 c1 k0 k1 hu hu2 hu3
  generalize ((((u3.setCell ⟨w.heap.size + 1, 0, none⟩ (.int .u64 0)).setCell ⟨w.heap.size + 1, 1, none⟩ (.int .u64 0)).setCell ⟨w.heap.size + 1, 2, none⟩ (.int .u64 0)).setCell ⟨w.heap.size + 1, 3, none⟩ (.int .u64 0)) = u4 at HP4 ⊢
  go_wp2_with fail
  exact bodyPost_ret (results_row_tmp rfl _ _ _ 28 _ (0, 0) _ _ rfl rfl HP4.out.res Ybaf.underlying28 rfl info28) rfl ⟨⟨N, rfl⟩, HP4.out.bel⟩
end Go.Proofs.YbulkbdxgFmt.W
