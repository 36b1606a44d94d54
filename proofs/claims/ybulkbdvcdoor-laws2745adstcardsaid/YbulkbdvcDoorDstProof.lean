/-
  The proof of 'Rows.LawS2745ADSTCardSaid': the walk out of its six cases, the row, the card by the builder's one call.
-/
import Derived.Test.YbulkbdvcDoorRows
import Derived.Test.YbulkbdvcDoorTie
import Derived.Test.YbulkbdvcDoorCards
import Derived.Test.YbulkbdvcDoorOpen
import Derived.Test.YbulkbdvcDoorLawFN
import Derived.Test.YbulkbdvcDoorLawTN
import Derived.Test.YbulkbdvcDoorLawFDf
import Derived.Test.YbulkbdvcDoorLawFDt
import Derived.Test.YbulkbdvcDoorLawTDf
import Derived.Test.YbulkbdvcDoorLawTDt
import Derived.LaidMore
import Derived.Stop.Joined
import Derived.SevenTiedAt
namespace Go.Proofs.YbulkbdvcDoor.dst
open Go.ChangeShapes Go.WideShapes Go.ChangeAt Go.RowKit
open Go.Proofs.YbulkbdvcDoor.W Go.Proofs.YbulkbdvcDoor.O Go.Proofs.YbulkbdvcDoor.B
set_option linter.unusedVariables false

set_option maxRecDepth 100000 in
theorem walk (a1 a2 : Option Addr) (len1 cap1 len2 cap2 : Nat) (ang1 ang2 : Bool) (G H M S F : Int) (ho : Bool) (G2 H2 M2 S2 F2 : Int) (hd semi : Bool) (K1 A1 B1 C1 : Int) (x1 : Bool) (p1 p2 p3 p4 p5 : Int) (K2 A2 B2 C2 : Int) (x2 : Bool) (q1 q2 q3 q4 q5 : Int)
    (hm1 : len1 ≤ maxLen) (hm2 : len2 ≤ maxLen) (ob1 : OffBounds G H M S F) (ob2 : OffBounds G2 H2 M2 S2 F2) (db1 : DateBounds K1 A1 B1 C1 p1 p2 p3 p4 p5) (db2 : DateBounds K2 A2 B2 C2 q1 q2 q3 q4 q5) (w : World) (hrow1 : Row8 w a1 len1) (hrow2 : Row8 w a2 len2) (hdf : Defaults w) :
    Calls Ybad.prog 4 #[.slice a1 len1 cap1, .slice a2 len2 cap2, .bool ang1, .bool ang2, .agg (offV G H M S F), .bool ho, .agg (offV G2 H2 M2 S2 F2), .bool hd, .bool semi, .agg (dateV K1 A1 B1 C1 x1 p1 p2 p3 p4 p5), .agg (dateV K2 A2 B2 C2 x2 q1 q2 q3 q4 q5)] w
      fun e w' => e = .returned (.bool true) ∧ Below w.heap.size w w' := by
  unfold maxLen at hm1 hm2
  by_cases hl1 : len1 ≤ 1024
  · by_cases hl2 : len2 ≤ 1024
    · cases hd with
      | false =>
        cases ho with
        | false => exact law_FN a1 a2 len1 cap1 len2 cap2 ang1 ang2 G H M S F G2 H2 M2 S2 F2 semi K1 A1 B1 C1 x1 p1 p2 p3 p4 p5 K2 A2 B2 C2 x2 q1 q2 q3 q4 q5 hl1 hl2 ob1 ob2 db1 db2 w hrow1 hrow2 hdf
        | true => exact law_TN a1 a2 len1 cap1 len2 cap2 ang1 ang2 G H M S F G2 H2 M2 S2 F2 semi K1 A1 B1 C1 x1 p1 p2 p3 p4 p5 K2 A2 B2 C2 x2 q1 q2 q3 q4 q5 hl1 hl2 ob1 ob2 db1 db2 w hrow1 hrow2 hdf
      | true =>
        cases ho with
        | false =>
          cases semi with
          | false => exact law_FDf a1 a2 len1 cap1 len2 cap2 ang1 ang2 G H M S F G2 H2 M2 S2 F2 K1 A1 B1 C1 x1 p1 p2 p3 p4 p5 K2 A2 B2 C2 x2 q1 q2 q3 q4 q5 hl1 hl2 ob1 ob2 db1 db2 w hrow1 hrow2 hdf
          | true => exact law_FDt a1 a2 len1 cap1 len2 cap2 ang1 ang2 G H M S F G2 H2 M2 S2 F2 K1 A1 B1 C1 x1 p1 p2 p3 p4 p5 K2 A2 B2 C2 x2 q1 q2 q3 q4 q5 hl1 hl2 ob1 ob2 db1 db2 w hrow1 hrow2 hdf
        | true =>
          cases semi with
          | false => exact law_TDf a1 a2 len1 cap1 len2 cap2 ang1 ang2 G H M S F G2 H2 M2 S2 F2 K1 A1 B1 C1 x1 p1 p2 p3 p4 p5 K2 A2 B2 C2 x2 q1 q2 q3 q4 q5 hl1 hl2 ob1 ob2 db1 db2 w hrow1 hrow2 hdf
          | true => exact law_TDt a1 a2 len1 cap1 len2 cap2 ang1 ang2 G H M S F G2 H2 M2 S2 F2 K1 A1 B1 C1 x1 p1 p2 p3 p4 p5 K2 A2 B2 C2 x2 q1 q2 q3 q4 q5 hl1 hl2 ob1 ob2 db1 db2 w hrow1 hrow2 hdf
    · have h1 : ¬ (1024 : Int) < (len1 : Int) := by omega
      have h2 : (1024 : Int) < (len2 : Int) := by omega
      go_enter Ybad.func4, Ybad.ntmps4
      go_wp2
      go_ret
      exact ⟨rfl, ((((Below.refl _ _).alloc (Nat.le_refl _) _).alloc (by simp) _).alloc (by simp; omega) _).alloc (by simp; omega) _⟩
  · have h1 : (1024 : Int) < (len1 : Int) := by omega
    go_enter Ybad.func4, Ybad.ntmps4
    go_wp2
    go_ret
    exact ⟨rfl, ((((Below.refl _ _).alloc (Nat.le_refl _) _).alloc (by simp) _).alloc (by simp; omega) _).alloc (by simp; omega) _⟩

section
variable {H : Type} {enc : TypeId × Value → H} {w : World} {base : Nat} {spare : Nat → Bool} {held : Bool}
theorem open_date {r : Reach} {b0 : Nat} {v : Value} {d : DataW H} {p : List MemPlace} (hv : Value.okWide Ybad.prog w r b0 41 v) (h : DataW.Trod enc Ybad.prog w base spare held 41 v d p) :
    ∃ K A B C ht G h M S F, v = .agg (dateV K A B C ht G h M S F) ∧ DateBounds K A B C G h M S F := by
  obtain ⟨cs, rfl, _⟩ := okWide_struct Ybad.underlying41 hv
  obtain ⟨fuel, hf⟩ := h
  obtain ⟨xs, m, _, _, hl, hlen, hf⟩ := DataW.trod_struct Ybad.underlying41 hf
  rw [c41] at hl
  obtain ⟨l⟩ := cs
  simp only [Value.cells] at hl hf
  match l, hl, xs, hlen with
  | [a0, a1, a2, a3, a4, a5, a6, a7, a8, a9], _, [x0, x1, x2, x3, x4, x5], _ =>
    have h0 : DataW.trod enc Ybad.prog w base spare held m 5 ([a0, a1, a2, a3, a4, a5, a6, a7, a8, a9].take (Ybad.prog.cellsOf 5)) = some x0 := hf 0 _ rfl
    have h1 : DataW.trod enc Ybad.prog w base spare held m 23 ([a1, a2, a3, a4, a5, a6, a7, a8, a9].take (Ybad.prog.cellsOf 23)) = some x1 := hf 1 _ rfl
    have h2 : DataW.trod enc Ybad.prog w base spare held m 23 ([a2, a3, a4, a5, a6, a7, a8, a9].take (Ybad.prog.cellsOf 23)) = some x2 := hf 2 _ rfl
    have h3 : DataW.trod enc Ybad.prog w base spare held m 23 ([a3, a4, a5, a6, a7, a8, a9].take (Ybad.prog.cellsOf 23)) = some x3 := hf 3 _ rfl
    have h4 : DataW.trod enc Ybad.prog w base spare held m 4 ([a4, a5, a6, a7, a8, a9].take (Ybad.prog.cellsOf 4)) = some x4 := hf 4 _ rfl
    have h5 : DataW.trod enc Ybad.prog w base spare held m 25 ([a5, a6, a7, a8, a9].take (Ybad.prog.cellsOf 25)) = some x5 := hf 5 _ rfl
    rw [c5] at h0
    rw [c23] at h1 h2 h3
    rw [c4] at h4
    rw [c25] at h5
    obtain ⟨K, e0, _, w0⟩ := DataW.trod_int Ybad.underlying5 h0
    obtain ⟨A, e1, _, w1⟩ := DataW.trod_int Ybad.underlying23 h1
    obtain ⟨B, e2, _, w2⟩ := DataW.trod_int Ybad.underlying23 h2
    obtain ⟨C, e3, _, w3⟩ := DataW.trod_int Ybad.underlying23 h3
    obtain ⟨ht, e4, _⟩ := DataW.trod_bool Ybad.underlying4 h4
    obtain ⟨G, hh, M, S, F, e5, hb⟩ := off_cells h5
    simp at e0 e1 e2 e3 e4 e5
    obtain ⟨rfl, rfl, rfl, rfl, rfl⟩ := e5
    subst e0 e1 e2 e3 e4
    exact ⟨K, A, B, C, ht, G, hh, M, S, F, rfl, (bounds_u8 w0).1, (bounds_u8 w0).2, (bounds_u16 w1).1, (bounds_u16 w1).2, (bounds_u16 w2).1, (bounds_u16 w2).2, (bounds_u16 w3).1, (bounds_u16 w3).2, hb⟩

theorem open_offv {r : Reach} {b0 : Nat} {v : Value} {d : DataW H} {p : List MemPlace} (hv : Value.okWide Ybad.prog w r b0 25 v) (h : DataW.Trod enc Ybad.prog w base spare held 25 v d p) :
    ∃ G h M S F, v = .agg (offV G h M S F) ∧ OffBounds G h M S F := open_off hv h
end

abbrev laid : List (String × DataW Unit) := Rows.lawS2745ADSTRow.laid

theorem door_met (os : Os) (args : Array Value) : laidMetH Ybad.prog laid ((World.doorLaid Ybad.prog 400 os).forCall (fun _ _ => 0) ⟨#[], args, []⟩).memory :=
  laidMetH_of_parts3 (fuel := 8) (laidMet_of_run' 8 (by kernel_rfl) (by kernel_rfl)) (by kernel_rfl) (by kernel_rfl)

section
variable {H : Type} {enc : TypeId × Value → H} {w : World} {base : Nat} {spare : Nat → Bool} {held : Bool}
theorem date_of {n : Nat} {cs : List Value} {L : List UInt8} {d k m t : Int} {p : List MemPlace}
    (h : DataW.trod enc Ybad.prog w base spare held n 34 cs = some (.agg [.lit (.string L), .lit (.int .i64 d), .lit (.int .i64 k), .lit (.int .i64 m), .lit (.int .i64 t)], p)) :
    cs = (dateCells L d k m t).toList := by
  obtain ⟨xs, f, _, hx, hl, hlen, hf⟩ := DataW.trod_struct Ybad.underlying34 h
  rw [c34] at hl
  match cs, hl, xs, hlen with
  | [a0, a1, a2, a3, a4], _, [x0, x1, x2, x3, x4], _ =>
    have h0 : DataW.trod enc Ybad.prog w base spare held f 32 ([a0, a1, a2, a3, a4].take (Ybad.prog.cellsOf 32)) = some x0 := hf 0 _ rfl
    have h1 : DataW.trod enc Ybad.prog w base spare held f 3 ([a1, a2, a3, a4].take (Ybad.prog.cellsOf 3)) = some x1 := hf 1 _ rfl
    have h2 : DataW.trod enc Ybad.prog w base spare held f 3 ([a2, a3, a4].take (Ybad.prog.cellsOf 3)) = some x2 := hf 2 _ rfl
    have h3 : DataW.trod enc Ybad.prog w base spare held f 3 ([a3, a4].take (Ybad.prog.cellsOf 3)) = some x3 := hf 3 _ rfl
    have h4 : DataW.trod enc Ybad.prog w base spare held f 3 ([a4].take (Ybad.prog.cellsOf 3)) = some x4 := hf 4 _ rfl
    rw [c32] at h0
    rw [c3] at h1 h2 h3 h4
    obtain ⟨s, e0, r0, _⟩ := DataW.trod_string Ybad.underlying32 h0
    obtain ⟨n1, e1, r1, _⟩ := DataW.trod_int Ybad.underlying3 h1
    obtain ⟨n2, e2, r2, _⟩ := DataW.trod_int Ybad.underlying3 h2
    obtain ⟨n3, e3, r3, _⟩ := DataW.trod_int Ybad.underlying3 h3
    obtain ⟨n4, e4, r4, _⟩ := DataW.trod_int Ybad.underlying3 h4
    simp at e0 e1 e2 e3 e4
    subst e0 e1 e2 e3 e4
    subst r0 r1 r2 r3 r4
    simp at hx
    obtain ⟨⟨rfl, rfl, rfl, rfl, rfl⟩, _⟩ := hx
    simp [dateCells, strB_self]
end

theorem of_laid {W : World} (h : laidMetH Ybad.prog laid W) : Defaults W := by
  rw [MakeChecks.laidMetH_plain _ _ _ (by kernel_rfl)] at h
  obtain ⟨ps, ⟨g0, t0, cs0, f0, p0, q0, hg0, ht0, hv0, hd0, ⟨g1, t1, cs1, f1, p1, q1, hg1, ht1, hv1, hd1, _, _⟩, _⟩, _, _⟩ := h
  obtain rfl := Option.some.inj (gStart.symm.trans hg0)
  obtain rfl := Option.some.inj (gEnd.symm.trans hg1)
  obtain rfl := Option.some.inj (tStart.symm.trans ht0)
  obtain rfl := Option.some.inj (tEnd.symm.trans ht1)
  have e0 := date_of hd0
  have e1 := date_of hd1
  have e0' : cs0 = dateCells [77] 0 2 3 7200 := Array.toList_inj.1 e0
  have e1' : cs1 = dateCells [77] 0 1 11 7200 := Array.toList_inj.1 e1
  subst e0' e1'
  refine ⟨?_, ?_⟩
  · unfold World.var? at hv0
    rw [hg0] at hv0
    simp only [Option.bind_some] at hv0
    split at hv0
    · rename_i c t fr hb
      simp at hv0
      exact ⟨t, fr, by rw [hb, hv0]⟩
    · simp at hv0
  · unfold World.var? at hv1
    rw [hg1] at hv1
    simp only [Option.bind_some] at hv1
    split at hv1
    · rename_i c t fr hb
      simp at hv1
      exact ⟨t, fr, by rw [hb, hv1]⟩
    · simp at hv1

set_option maxRecDepth 100000 in
theorem lifted (os : Os) (started : os.Started) (H : Type) (enc : TypeId × Value → H) :
    ReturnsInHanded {} Ybad.checked os 4 .any (fun w args => (Rows.lawS2745ADSTSpec.pre enc Ybad.prog Ybad.f4 [] false w args ∧ laidMetH Ybad.prog laid w) ∧ sizedMet enc Ybad.prog Ybad.f4 (OpenSpec.ofChange Rows.lawS2745ADSTSpec) false w args)
      (Rows.lawS2745ADSTSpec.post enc Ybad.prog Ybad.f4 false true false false) := by
  refine returnsInHanded_of_change_and (C := Ybad.checked) (X := fun w _ => laidMetH Ybad.prog laid w) (fun _ _ _ hh h => h.of_heap hh) own started (by kernel_rfl) Ybad.func4
    (ChangeSpec.witness_shaped (enc := enc) (C := Ybad.checked) (os := os) (X := fun w _ => laidMetH Ybad.prog laid w) false (World.doorLaid Ybad.prog 400 os)
      #[.slice none 0 0, .slice none 0 0, .bool false, .bool false, .agg #[.int .u8 0, .int .u16 0, .int .u16 0, .int .u16 0, .int .u8 0], .bool false, .agg #[.int .u8 0, .int .u16 0, .int .u16 0, .int .u16 0, .int .u8 0], .bool false, .bool false,
        .agg #[.int .u8 0, .int .u16 0, .int .u16 0, .int .u16 0, .bool false, .int .u8 0, .int .u16 0, .int .u16 0, .int .u16 0, .int .u8 0], .agg #[.int .u8 0, .int .u16 0, .int .u16 0, .int .u16 0, .bool false, .int .u8 0, .int .u16 0, .int .u16 0, .int .u16 0, .int .u8 0]]
      8 rfl (World.shaped_of_RefB (by kernel_rfl) (by kernel_rfl)) (by kernel_rfl) (by kernel_rfl) (by kernel_rfl) (door_met os _)) ?_
  intro W base args ds gs before hval0 hW _ _ hL _
  have hval : ∀ (j : Nat) t v, Ybad.f4.params[j]? = some t → args[j]? = some v → Value.okWide Ybad.prog W .any base t v := hval0
  have hW' := hW
  obtain ⟨p, q, hA0, hV0, rfl, hfz, hnd⟩ := hW
  have hA : DataW.TrodAll enc Ybad.prog W 0 (fun _ => true) true Ybad.f4.params.toList args.toList ds p := hA0
  have hV : DataW.TrodVars enc Ybad.prog W (fun _ => true) [nStart, nEnd] gs q := hV0
  rw [Ybad.params4] at hA hval
  obtain ⟨v0, vs0, d0, ds0, p0, q0, hargs, rfl, rfl, h0, r0⟩ := trodAll_cons hA
  obtain ⟨v1, vs1, d1, ds1, p1, q1, rfl, rfl, rfl, h1, r1⟩ := trodAll_cons r0
  obtain ⟨v2, vs2, d2, ds2, p2, q2, rfl, rfl, rfl, h2, r2⟩ := trodAll_cons r1
  obtain ⟨v3, vs3, d3, ds3, p3, q3, rfl, rfl, rfl, h3, r3⟩ := trodAll_cons r2
  obtain ⟨v4, vs4, d4, ds4, p4, q4, rfl, rfl, rfl, h4, r4⟩ := trodAll_cons r3
  obtain ⟨v5, vs5, d5, ds5, p5, q5, rfl, rfl, rfl, h5, r5⟩ := trodAll_cons r4
  obtain ⟨v6, vs6, d6, ds6, p6, q6, rfl, rfl, rfl, h6, r6⟩ := trodAll_cons r5
  obtain ⟨v7, vs7, d7, ds7, p7, q7, rfl, rfl, rfl, h7, r7⟩ := trodAll_cons r6
  obtain ⟨v8, vs8, d8, ds8, p8, q8, rfl, rfl, rfl, h8, r8⟩ := trodAll_cons r7
  obtain ⟨v9, vs9, d9, ds9, p9, q9, rfl, rfl, rfl, h9, r9⟩ := trodAll_cons r8
  obtain ⟨v10, vs10, d10, ds10, p10, q10, rfl, rfl, rfl, h10, r10⟩ := trodAll_cons r9
  obtain ⟨rfl, rfl, rfl⟩ := trodAll_nil r10
  obtain rfl : args = #[v0, v1, v2, v3, v4, v5, v6, v7, v8, v9, v10] := by cases args; simp_all
  obtain ⟨g0, t0, cs0, f0, e0, pp0, g1, t1, cs1, f1, e1, pp1, rfl, _⟩ := trodVars_two hV
  have k0 := h0
  have lt0 : ∀ x ∈ p0, x.block < W.heap.size := by obtain ⟨m, hm⟩ := k0; exact DataW.trod_lt m _ _ _ hm
  have k1 := h1
  have lt1 : ∀ x ∈ p1, x.block < W.heap.size := by obtain ⟨m, hm⟩ := k1; exact DataW.trod_lt m _ _ _ hm
  have k2 := h2
  have lt2 : ∀ x ∈ p2, x.block < W.heap.size := by obtain ⟨m, hm⟩ := k2; exact DataW.trod_lt m _ _ _ hm
  have k3 := h3
  have lt3 : ∀ x ∈ p3, x.block < W.heap.size := by obtain ⟨m, hm⟩ := k3; exact DataW.trod_lt m _ _ _ hm
  have k4 := h4
  have lt4 : ∀ x ∈ p4, x.block < W.heap.size := by obtain ⟨m, hm⟩ := k4; exact DataW.trod_lt m _ _ _ hm
  have k5 := h5
  have lt5 : ∀ x ∈ p5, x.block < W.heap.size := by obtain ⟨m, hm⟩ := k5; exact DataW.trod_lt m _ _ _ hm
  have k6 := h6
  have lt6 : ∀ x ∈ p6, x.block < W.heap.size := by obtain ⟨m, hm⟩ := k6; exact DataW.trod_lt m _ _ _ hm
  have k7 := h7
  have lt7 : ∀ x ∈ p7, x.block < W.heap.size := by obtain ⟨m, hm⟩ := k7; exact DataW.trod_lt m _ _ _ hm
  have k8 := h8
  have lt8 : ∀ x ∈ p8, x.block < W.heap.size := by obtain ⟨m, hm⟩ := k8; exact DataW.trod_lt m _ _ _ hm
  have k9 := h9
  have lt9 : ∀ x ∈ p9, x.block < W.heap.size := by obtain ⟨m, hm⟩ := k9; exact DataW.trod_lt m _ _ _ hm
  have k10 := h10
  have lt10 : ∀ x ∈ p10, x.block < W.heap.size := by obtain ⟨m, hm⟩ := k10; exact DataW.trod_lt m _ _ _ hm
  obtain ⟨a1, len1, cap1, rfl, hm1, hrow1⟩ := open_row8 (hval 0 22 v0 rfl rfl) h0
  obtain ⟨a2, len2, cap2, rfl, hm2, hrow2⟩ := open_row8 (hval 1 22 v1 rfl rfl) h1
  obtain ⟨G, h, M, S, F, rfl, ob1⟩ := open_offv (hval 4 25 v4 rfl rfl) h4
  obtain ⟨G2, h2', M2, S2, F2, rfl, ob2⟩ := open_offv (hval 6 25 v6 rfl rfl) h6
  obtain ⟨K1, A1, B1, C1, x1, i1, i2, i3, i4, i5, rfl, db1⟩ := open_date (hval 9 41 v9 rfl rfl) h9
  obtain ⟨K2, A2, B2, C2, x2, j1, j2, j3, j4, j5, rfl, db2⟩ := open_date (hval 10 41 v10 rfl rfl) h10
  have y2 : ∃ b, v2 = .bool b := by obtain ⟨b, rfl, _⟩ := open_bool Ybad.underlying4 (hval 2 4 v2 rfl rfl) h2; exact ⟨b, rfl⟩
  obtain ⟨b2, rfl⟩ := y2
  have y3 : ∃ b, v3 = .bool b := by obtain ⟨b, rfl, _⟩ := open_bool Ybad.underlying4 (hval 3 4 v3 rfl rfl) h3; exact ⟨b, rfl⟩
  obtain ⟨b3, rfl⟩ := y3
  have y5 : ∃ b, v5 = .bool b := by obtain ⟨b, rfl, _⟩ := open_bool Ybad.underlying4 (hval 5 4 v5 rfl rfl) h5; exact ⟨b, rfl⟩
  obtain ⟨b5, rfl⟩ := y5
  have y7 : ∃ b, v7 = .bool b := by obtain ⟨b, rfl, _⟩ := open_bool Ybad.underlying4 (hval 7 4 v7 rfl rfl) h7; exact ⟨b, rfl⟩
  obtain ⟨b7, rfl⟩ := y7
  have y8 : ∃ b, v8 = .bool b := by obtain ⟨b, rfl, _⟩ := open_bool Ybad.underlying4 (hval 8 4 v8 rfl rfl) h8; exact ⟨b, rfl⟩
  obtain ⟨b8, rfl⟩ := y8
  clear hA0 hval0 hV0
  refine (walk a1 a2 len1 cap1 len2 cap2 b2 b3 G h M S F b5 G2 h2' M2 S2 F2 b7 b8 K1 A1 B1 C1 x1 i1 i2 i3 i4 i5 K2 A2 B2 C2 x2 j1 j2 j3 j4 j5 hm1 hm2 ob1 ob2 db1 db2 W hrow1 hrow2 (of_laid hL)).mono fun e W' ⟨he, bel⟩ => ?_
  subst he
  exact ⟨_, rfl, _, _, _, [], _, _, hW', trodAll_mk1 (shut_bool Ybad.underlying4 _),
    (trodAll_cons_mk (Below.trod laidOut (by kernel_rfl) (of_decide_eq_true (by kernel_rfl)) k0 bel lt0) (trodAll_cons_mk (Below.trod laidOut (by kernel_rfl) (of_decide_eq_true (by kernel_rfl)) k1 bel lt1) (trodAll_cons_mk (Below.trod laidOut (by kernel_rfl) (of_decide_eq_true (by kernel_rfl)) k2 bel lt2) (trodAll_cons_mk (Below.trod laidOut (by kernel_rfl) (of_decide_eq_true (by kernel_rfl)) k3 bel lt3) (trodAll_cons_mk (Below.trod laidOut (by kernel_rfl) (of_decide_eq_true (by kernel_rfl)) k4 bel lt4) (trodAll_cons_mk (Below.trod laidOut (by kernel_rfl) (of_decide_eq_true (by kernel_rfl)) k5 bel lt5) (trodAll_cons_mk (Below.trod laidOut (by kernel_rfl) (of_decide_eq_true (by kernel_rfl)) k6 bel lt6) (trodAll_cons_mk (Below.trod laidOut (by kernel_rfl) (of_decide_eq_true (by kernel_rfl)) k7 bel lt7) (trodAll_cons_mk (Below.trod laidOut (by kernel_rfl) (of_decide_eq_true (by kernel_rfl)) k8 bel lt8) (trodAll_cons_mk (Below.trod laidOut (by kernel_rfl) (of_decide_eq_true (by kernel_rfl)) k9 bel lt9) (trodAll_cons_mk (Below.trod laidOut (by kernel_rfl) (of_decide_eq_true (by kernel_rfl)) k10 bel lt10) trodAll_mk0))))))))))),
    vars_below bel hV, bel.frame _, fun h => by cases h⟩

theorem row_holds : Rows.LawS2745ADSTSaid :=
  OpenClaim.holds_of_wide 4 Ybad.f4 rfl rfl rfl rfl rfl rfl rfl ⟨rfl, rfl, rfl, rfl, rfl⟩ rfl rfl rfl rfl rfl (by kernel_rfl) Ybad.func4 (by kernel_rfl)
    (of_decide_eq_true (by kernel_rfl)) (by unfold Func.isWrapper; first | (rw [if_pos (by decide +kernel)]; kernel_rfl) | (rw [if_neg (by decide +kernel)]; exact ⟨rfl, rfl⟩))
    (fun os started H enc _ => lifted os started H enc)

/-- THE STATEMENT: the tied card. -/
theorem proved : Rows.LawS2745ADSTCardSaid :=
  Claim7.holds_tied_plain_at .later [] [.data, .data] true (true, "41e6cc9cc12c1820eb4c1e4ee20a8ee4e9253ed19a88a540aedcbbda0dd76bdd") false
    row_holds (fun _ h => by cases h) (by kernel_rfl) (fun _ h => by cases h) lawS2745ADST_row_tie rfl ⟨rfl, rfl⟩ (by kernel_rfl) rfl
    (fun f fn hf hfn => by
      obtain rfl : f = 4 := Option.some.inj ((show Ybad.prog.funcNamed Rows.lawS2745ADSTRow.func = some 4 by kernel_rfl).symm.trans hf) |>.symm
      obtain rfl : fn = Ybad.f4 := (Option.some.inj (Ybad.func4.symm.trans hfn)).symm
      exact ⟨by kernel_rfl, fun j t ht => by
        rw [Ybad.params4] at ht
        have hm : t ∈ [22, 22, 4, 4, 25, 4, 25, 4, 4, 41, 41] := by simpa using Array.mem_of_getElem? ht
        have hall : ([22, 22, 4, 4, 25, 4, 25, 4, 4, 41, 41].all fun u => !Ybad.prog.wantsStandIn u) = true := by kernel_rfl
        exact (show Ybad.prog.wantsStandIn t = false by simpa using List.all_eq_true.1 hall t hm)⟩)
    (by kernel_rfl)
#print axioms proved
end Go.Proofs.YbulkbdvcDoor.dst
