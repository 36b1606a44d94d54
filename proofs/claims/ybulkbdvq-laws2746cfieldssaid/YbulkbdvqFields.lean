import Derived.Test.YbulkbdvqField
import Derived.Deep.RegionHeld3
namespace Go.Proofs.Ybulkbdvq.W
open Go.RowKit
open Go.Proofs.Ybulkbdvq.B

theorem all_one {cs : Array Value} (h : cs.toList.all (·.oneCell') = true) : cs.all (·.oneCell') = true := by rw [← Array.all_toList]; exact h

theorem setRow_top (W : World) (old new : Array Value) (t : TypeId) (n : Nat) (hn : n = W.heap.size) : (W.alloc (.cells old t)).setRow n new = W.alloc (.cells new t) := by
  subst hn
  unfold World.setRow World.alloc
  congr 1
  apply Array.ext_getElem?
  intro k
  simp only [Array.getElem?_modify, Array.getElem?_push]
  by_cases hk : k = W.heap.size
  · subst hk; simp
  · simp [hk, Ne.symm hk]

theorem field_s (X S K C : ByteArray) (lead sep key colon before : List UInt8) (hX : X = strB lead) (hS : S = strB sep) (hK : K = strB key) (hC : C = strB colon) (hb : lead ++ sep = before) (h1 : lead.length ≤ 100) (h2 : sep.length ≤ 140737488351232) (h3 : key.length ≤ 100) (h4 : colon.length ≤ 140737488351232) (w : World) :
    Calls Yba.prog 6 #[.string X, .string S, .string K, .string C] w fun e w' => e = .returned (.string (strB (fld before key colon))) ∧ Below w.heap.size w w' := by
  subst hX hS hK hC hb
  exact field_any lead sep key colon h1 h2 h3 h4 w

set_option maxRecDepth 100000 in
set_option maxHeartbeats 2000000 in
theorem fields_walk (o s c z : List UInt8) (ho : o.length ≤ 140737488351232) (hs : s.length ≤ 140737488351232) (hc : c.length ≤ 140737488351232) (hz : z.length ≤ 140737488351232) (w : World) :
    Calls Yba.prog 3 #[.string (strB o), .string (strB s), .string (strB c), .string (strB z)] w fun e w' => e = .returned (.bool true) ∧ Below w.heap.size w w' := by
  go_enter Yba.func3, Yba.ntmps3
  go_wp2_with fail
  refine (layout_any o s c z ho hs hc hz _).mono ?_
  rintro e w1 ⟨rfl, hb1⟩
  have W1 := hide hb1
  clear hb1
  go_wp2_with (refine wpList_store_row rfl 23 (.tmp 9) _ rfl _ _ rfl rfl 23 _ (heap_top _ _ _ (by simp)) info23 rfl (all_one rfl) ?_; rw [setRow_top _ _ _ _ _ (by simp)])
  have V0 : Hid (Below w.heap.size w (w1.alloc (.cells (layout o s c z) 23))) := Below.alloc W1.out W1.out.size _
  have L0 : Hid ((w1.alloc (.cells (layout o s c z) 23)).heap[w1.heap.size]? = some (.cells (layout o s c z) 23 (0, 0))) := heap_top _ _ _ rfl
  generalize w1.alloc (.cells (layout o s c z) 23) = v0 at V0 L0 ⊢
  have c0 : v0.cell? ⟨w1.heap.size, 0, none⟩ = some (.string (strB (fld (123 :: o) kBid c))) := (cell_of_row v0 _ 0 _ _ _ L0.out).trans rfl
  have z0 : w1.heap.size < v0.heap.size := (Array.getElem?_eq_some_iff.1 L0.out).1
  go_region_held3 (fun w' => w'.cell? ⟨w1.heap.size, 0, none⟩ = some (.string (strB (fld (123 :: o) kBid c)))) ((first | assumption | (simp; assumption))) ((go_at_call 6; refine (field_s _ _ _ _ [123] o kBid c (123 :: o) rfl rfl rfl rfl rfl (by decide) ho (by decide) hc _).mono ?_; rintro e v1 ⟨rfl, hv1⟩; have d1 : v1.cell? ⟨w1.heap.size, 0, none⟩ = some (.string (strB (fld (123 :: o) kBid c))) := (hv1.cell (p := ⟨w1.heap.size, 0, none⟩) (by simp; exact z0)).trans c0))
  have V1 : Hid (Below w.heap.size w v1) := Below.trans V0.out.drew (hv1.mono V0.out.size)
  have L1 : Hid (v1.heap[w1.heap.size]? = some (.cells (layout o s c z) 23 (0, 0))) := (hv1.block _ z0).trans L0.out
  clear c0 z0 hv1 d1
  go_wp2_with fail
  have c1 : v1.cell? ⟨w1.heap.size, 1, none⟩ = some (.string (strB (fld (44 :: s) kStatus c))) := (cell_of_row v1 _ 1 _ _ _ L1.out).trans rfl
  have z1 : w1.heap.size < v1.heap.size := (Array.getElem?_eq_some_iff.1 L1.out).1
  go_region_held3 (fun w' => w'.cell? ⟨w1.heap.size, 1, none⟩ = some (.string (strB (fld (44 :: s) kStatus c)))) ((first | assumption | (simp; assumption))) ((go_at_call 6; refine (field_s _ _ _ _ [44] s kStatus c (44 :: s) rfl rfl rfl rfl rfl (by decide) hs (by decide) hc _).mono ?_; rintro e v2 ⟨rfl, hv2⟩; have d2 : v2.cell? ⟨w1.heap.size, 1, none⟩ = some (.string (strB (fld (44 :: s) kStatus c))) := (hv2.cell (p := ⟨w1.heap.size, 1, none⟩) (by simp; exact z1)).trans c1))
  have V2 : Hid (Below w.heap.size w v2) := Below.trans V1.out.drew (hv2.mono V1.out.size)
  have L2 : Hid (v2.heap[w1.heap.size]? = some (.cells (layout o s c z) 23 (0, 0))) := (hv2.block _ z1).trans L1.out
  clear c1 z1 hv2 d2
  go_wp2_with fail
  have c2 : v2.cell? ⟨w1.heap.size, 2, none⟩ = some (.string (strB (fld (44 :: s) kReason c))) := (cell_of_row v2 _ 2 _ _ _ L2.out).trans rfl
  have z2 : w1.heap.size < v2.heap.size := (Array.getElem?_eq_some_iff.1 L2.out).1
  go_region_held3 (fun w' => w'.cell? ⟨w1.heap.size, 2, none⟩ = some (.string (strB (fld (44 :: s) kReason c)))) ((first | assumption | (simp; assumption))) ((go_at_call 6; refine (field_s _ _ _ _ [44] s kReason c (44 :: s) rfl rfl rfl rfl rfl (by decide) hs (by decide) hc _).mono ?_; rintro e v3 ⟨rfl, hv3⟩; have d3 : v3.cell? ⟨w1.heap.size, 2, none⟩ = some (.string (strB (fld (44 :: s) kReason c))) := (hv3.cell (p := ⟨w1.heap.size, 2, none⟩) (by simp; exact z2)).trans c2))
  have V3 : Hid (Below w.heap.size w v3) := Below.trans V2.out.drew (hv3.mono V2.out.size)
  have L3 : Hid (v3.heap[w1.heap.size]? = some (.cells (layout o s c z) 23 (0, 0))) := (hv3.block _ z2).trans L2.out
  clear c2 z2 hv3 d3
  go_wp2_with fail
  have c3 : v3.cell? ⟨w1.heap.size, 3, none⟩ = some (.string (strB (fld (44 :: s) kAward c))) := (cell_of_row v3 _ 3 _ _ _ L3.out).trans rfl
  have z3 : w1.heap.size < v3.heap.size := (Array.getElem?_eq_some_iff.1 L3.out).1
  go_region_held3 (fun w' => w'.cell? ⟨w1.heap.size, 3, none⟩ = some (.string (strB (fld (44 :: s) kAward c)))) ((first | assumption | (simp; assumption))) ((go_at_call 6; refine (field_s _ _ _ _ [44] s kAward c (44 :: s) rfl rfl rfl rfl rfl (by decide) hs (by decide) hc _).mono ?_; rintro e v4 ⟨rfl, hv4⟩; have d4 : v4.cell? ⟨w1.heap.size, 3, none⟩ = some (.string (strB (fld (44 :: s) kAward c))) := (hv4.cell (p := ⟨w1.heap.size, 3, none⟩) (by simp; exact z3)).trans c3))
  have V4 : Hid (Below w.heap.size w v4) := Below.trans V3.out.drew (hv4.mono V3.out.size)
  have L4 : Hid (v4.heap[w1.heap.size]? = some (.cells (layout o s c z) 23 (0, 0))) := (hv4.block _ z3).trans L3.out
  clear c3 z3 hv4 d4
  go_wp2_with fail
  have c4 : v4.cell? ⟨w1.heap.size, 4, none⟩ = some (.string (strB (fld (44 :: s) kPrice c))) := (cell_of_row v4 _ 4 _ _ _ L4.out).trans rfl
  have z4 : w1.heap.size < v4.heap.size := (Array.getElem?_eq_some_iff.1 L4.out).1
  go_region_held3 (fun w' => w'.cell? ⟨w1.heap.size, 4, none⟩ = some (.string (strB (fld (44 :: s) kPrice c)))) ((first | assumption | (simp; assumption))) ((go_at_call 6; refine (field_s _ _ _ _ [44] s kPrice c (44 :: s) rfl rfl rfl rfl rfl (by decide) hs (by decide) hc _).mono ?_; rintro e v5 ⟨rfl, hv5⟩; have d5 : v5.cell? ⟨w1.heap.size, 4, none⟩ = some (.string (strB (fld (44 :: s) kPrice c))) := (hv5.cell (p := ⟨w1.heap.size, 4, none⟩) (by simp; exact z4)).trans c4))
  have V5 : Hid (Below w.heap.size w v5) := Below.trans V4.out.drew (hv5.mono V4.out.size)
  have L5 : Hid (v5.heap[w1.heap.size]? = some (.cells (layout o s c z) 23 (0, 0))) := (hv5.block _ z4).trans L4.out
  clear c4 z4 hv5 d5
  go_wp2_with fail
  have c5 : v5.cell? ⟨w1.heap.size, 5, none⟩ = some (.string (strB (fld (44 :: s) kPayment c))) := (cell_of_row v5 _ 5 _ _ _ L5.out).trans rfl
  have z5 : w1.heap.size < v5.heap.size := (Array.getElem?_eq_some_iff.1 L5.out).1
  go_region_held3 (fun w' => w'.cell? ⟨w1.heap.size, 5, none⟩ = some (.string (strB (fld (44 :: s) kPayment c)))) ((first | assumption | (simp; assumption))) ((go_at_call 6; refine (field_s _ _ _ _ [44] s kPayment c (44 :: s) rfl rfl rfl rfl rfl (by decide) hs (by decide) hc _).mono ?_; rintro e v6 ⟨rfl, hv6⟩; have d6 : v6.cell? ⟨w1.heap.size, 5, none⟩ = some (.string (strB (fld (44 :: s) kPayment c))) := (hv6.cell (p := ⟨w1.heap.size, 5, none⟩) (by simp; exact z5)).trans c5))
  have V6 : Hid (Below w.heap.size w v6) := Below.trans V5.out.drew (hv6.mono V5.out.size)
  have L6 : Hid (v6.heap[w1.heap.size]? = some (.cells (layout o s c z) 23 (0, 0))) := (hv6.block _ z5).trans L5.out
  clear c5 z5 hv6 d6
  obtain ⟨i0, hi, hz0, hz1, hz2⟩ := info_parts info5
  have s4 : (strB z).size ≤ 140737488351232 := by rw [strB_size]; exact hz
  obtain ⟨n, hn⟩ : ∃ n, n = z.length + 1 := ⟨_, rfl⟩
  obtain ⟨n1, e1⟩ : ∃ x, 0 + z.length = x := ⟨_, rfl⟩
  obtain ⟨n2, e2⟩ : ∃ x, n1 + 1 = x := ⟨_, rfl⟩
  have b1 : n1 ≤ n := by omega
  have b2 : n2 ≤ n := by omega
  have bn : n ≤ 281474976710656 := by omega
  have HN := hide hn
  have E1 := hide e1
  have E2 := hide e2
  clear hn e1 e2
  go_wp2_with (at_make; refine wpList_make_own _ rfl _ _ 26 rfl v6.heap.size 5 i0 (.int .u8 0) 1 Yba.underlying26 hi hz0 hz1 .i64 .i64 _ n rfl rfl ?y1 ?y2 ?y3 ?y4 ?_)
  case y1 => rw [HN.out]; simp only [strB_size]; omega
  case y2 => rw [hz2]; omega
  case y3 => unfold maxLen; omega
  case y4 => exact Nat.le_refl _
  intro u1 o1 g1
  have U1 : Hid (Below v6.heap.size v6 u1) := (Below.refl _ _).grown g1 (Nat.le_refl _) (fun k h => by cases h)
  have O1 : Hid (u1.ownsRow v6.heap.size 5 1 (.slice (some ⟨v6.heap.size, 0, none⟩) 0 n) 0 (bytesV [])) := o1
  clear o1 g1
  go_wp2_with (at_builtin; refine app_room rfl _ _ rfl v6.heap.size i0 hi hz1 v6.heap.size 0 n [] rfl O1.out z rfl n1 E1.out b1 ?_)
  intro u2 o2 g2
  have U2 : Hid (Below v6.heap.size v6 u2) := hd v6.heap.size U1.out U1.out.size (Nat.le_refl _) g2
  have O2 := hide o2
  clear o2 g2
  go_wp2_with (at_builtin; refine app_lit rfl _ _ rfl v6.heap.size i0 hi hz1 v6.heap.size n1 n _ #[.int .u8 125] [125] rfl rfl O2.out 1 rfl rfl n2 E2.out b2 ?_)
  intro u3 o3 g3
  have U3 : Hid (Below v6.heap.size v6 u3) := hd v6.heap.size (Below.alloc U2.out U2.out.size _) (by have := U2.out.size; simp; omega) (Nat.le_refl _) g3
  have hcv := own_conv (P := Yba.prog) o3 (by have := o3.1; rw [bytesV_length] at this; omega) Yba.underlying26 Yba.underlying5 Yba.underlying9
  have z6 : w1.heap.size < v6.heap.size := (Array.getElem?_eq_some_iff.1 L6.out).1
  have c6 : u3.cell? ⟨w1.heap.size, 6, none⟩ = some (.string (strB (z ++ [125]))) := (U3.out.cell (p := ⟨w1.heap.size, 6, none⟩) z6).trans ((cell_of_row v6 _ 6 _ _ _ L6.out).trans rfl)
  clear o3 g3
  go_wp2
  go_ret
  exact ⟨rfl, V6.out.trans (U3.out.mono V6.out.size)⟩
end Go.Proofs.Ybulkbdvq.W
