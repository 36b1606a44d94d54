import Derived.Test.YbulkbdvcDoorOffGen
import Derived.Test.YbulkbdvcDoorStdWalk
import Derived.Test.YbulkbdvcDoorDate
import Derived.Deep.RegionHeld3
namespace Go.Proofs.YbulkbdvcDoor.W
open Go.RowKit
set_option linter.unusedVariables false
set_option linter.unusedSimpArgs false
open Go.Proofs.YbulkbdvcDoor.P Go.Proofs.YbulkbdvcDoor.B

theorem ret_sd {a b : ByteArray} {x y : Array Value} (h1 : a = b) (h2 : x = y) : Ending.returned (.tuple #[.string a, .agg x]) = .returned (.tuple #[.string b, .agg y]) := by rw [h1, h2]

/-- What the call keeps of its own three blocks behind a call that makes memory. -/
theorem keep3 {w W w1 : World} {A B C : Obj} (hW : W = ((w.alloc A).alloc B).alloc C) (hb : Below W.heap.size W w1) :
    w1.heap[w.heap.size]? = some A ∧ w1.heap[w.heap.size + 1]? = some B ∧ w1.heap[w.heap.size + 1 + 1]? = some C ∧ w.heap.size + 1 + 1 < w1.heap.size ∧ Below w.heap.size w w1 := by
  subst hW
  have hs := hb.size
  simp at hs
  refine ⟨?_, ?_, ?_, by omega, ?_⟩
  · rw [hb.block _ (by simp; omega), heap_past _ _ _ (by simp; omega), heap_past _ _ _ (by simp), heap_top _ _ _ rfl]
  · rw [hb.block _ (by simp), heap_past _ _ _ (by simp), heap_top _ _ _ (by simp)]
  · rw [hb.block _ (by simp), heap_top _ _ _ (by simp)]
  · exact Below.trans ((((Below.refl _ _).alloc (Nat.le_refl _) _).alloc (by simp) _).alloc (by simp; omega) _) (hb.mono (by simp; omega))

theorem itoa_int (z : Int) (h0 : 0 ≤ z) (h9 : z ≤ 999) (w : World) :
    Calls Ybad.prog 9 #[.int .i64 z] w fun e w' => ∃ l, e = .returned (.string (strB l)) ∧ Num l z.toNat ∧ Below w.heap.size w w' := by
  obtain ⟨n, rfl⟩ := Int.eq_ofNat_of_zero_le h0
  rw [Int.toNat_natCast]
  exact itoa_ok n (by omega) w

/-- The three blocks of 'zzs2745adate': the description, the result, the date. -/
structure Three (w w1 : World) (A R D : Array Value) : Prop where
  arg : w1.heap[w.heap.size]? = some (.cells A 41 (0, 0))
  res : w1.heap[w.heap.size + 1]? = some (.cells R 34 (0, 0))
  date : w1.heap[w.heap.size + 1 + 1]? = some (.cells D 34 (0, 0))
  below : Below w.heap.size w w1

theorem Three.size {w w1 : World} {A R D : Array Value} (h : Three w w1 A R D) : w.heap.size + 1 + 1 < w1.heap.size := (Array.getElem?_eq_some_iff.1 h.date).1

theorem Three.start (w w1 : World) (A R D : Array Value) (hb : Below (((w.alloc (.cells A 41)).alloc (.cells R 34)).alloc (.cells D 34)).heap.size (((w.alloc (.cells A 41)).alloc (.cells R 34)).alloc (.cells D 34)) w1) : Three w w1 A R D := by
  obtain ⟨h1, h2, h3, h4, h5⟩ := keep3 rfl hb
  exact ⟨h1, h2, h3, h5⟩

theorem Three.more {w w1 w2 : World} {A R D : Array Value} (h : Three w w1 A R D) (hb : Below w1.heap.size w1 w2) : Three w w2 A R D := by
  have := h.size
  exact ⟨by rw [hb.block _ (by omega)]; exact h.arg, by rw [hb.block _ (by omega)]; exact h.res, by rw [hb.block _ (by omega)]; exact h.date, h.below.trans (hb.mono (by omega))⟩

theorem heap_setRow_ne (w : World) (g k : Nat) (c : Array Value) (h : k ≠ g) : (w.setRow g c).heap[k]? = w.heap[k]? := by
  unfold World.setRow
  simp only [Array.getElem?_modify]
  rw [if_neg (by omega)]

theorem Below.setRow {B : Nat} {a w : World} (h : Below B a w) {g : Nat} (hg : B ≤ g) (c : Array Value) : Below B a (w.setRow g c) :=
  h.trans ⟨rfl, rfl, rfl, by simp [World.setRow], fun k hk => heap_setRow_ne _ _ _ _ (by omega)⟩

theorem Three.put {w w1 : World} {A R D : Array Value} (h : Three w w1 A R D) (D' : Array Value) : Three w (w1.setRow (w.heap.size + 1 + 1) D') A R D' :=
  ⟨by rw [heap_setRow_ne _ _ _ _ (by omega)]; exact h.arg, by rw [heap_setRow_ne _ _ _ _ (by omega)]; exact h.res, setRow_heap _ _ _ _ _ _ h.date, Below.setRow h.below (by omega) _⟩

theorem Three.time {w w1 : World} {A R : Array Value} {f : ByteArray} {d k m t : Int} (h : Three w w1 A R #[.string f, .int .i64 d, .int .i64 k, .int .i64 m, .int .i64 t]) (t' : Int) :
    Three w (w1.setCell ⟨w.heap.size + 1 + 1, 4, none⟩ (.int .i64 t')) A R #[.string f, .int .i64 d, .int .i64 k, .int .i64 m, .int .i64 t'] :=
  ⟨by rw [Below.heap_setCell _ _ _ _ (by simp; omega)]; exact h.arg, by rw [Below.heap_setCell _ _ _ _ (by simp)]; exact h.res,
    by rw [heap_setCell_same w1 _ 4 _ 34 _ h.date]; rfl, h.below.setCell (by simp; omega) _⟩
/-- The date stored whole: the world behind it under a name of its own. -/
theorem store_three {ops : Array Oper} {rest : List Oper} {o : Oper} {a : Act} {w w1 : World} {Q : Exit → Act → World → Prop} {A R D : Array Value} (hgd : o.guard = none) (x y : Operand) (ho : o.op = .store 34 x y)
    (cells : Array Value) (hx : a.eval x = .pointer (some ⟨w.heap.size + 1 + 1, 0, none⟩)) (hy : a.eval y = .agg cells) (hT : Three w w1 A R D) (hi : cells.size = 5) (hold : D.size = 5) (h1 : cells.all (·.oneCell') = true)
    (h : ∀ w2, Three w w2 A R cells → wpList Ybad.prog ops Q rest (a.put o.dst undef) w2) : wpList Ybad.prog ops Q (o :: rest) a w1 :=
  wpList_store_row hgd 34 x y ho _ cells hx hy 34 D hT.date (by rw [hi]; exact info34) (by omega) h1 (h _ (hT.put cells))

theorem Three.free {w w1 : World} {A R D : Array Value} (h : Three w w1 A R D) : (∀ j, w1.frozen? ⟨w.heap.size + 1, j, none⟩ = false) ∧ ∀ j, w1.frozen? ⟨w.heap.size + 1 + 1, j, none⟩ = false :=
  ⟨fun j => frozen_of_row w1 _ j _ _ h.res, fun j => frozen_of_row w1 _ j _ _ h.date⟩

theorem Three.cells {w w1 : World} {A : Array Value} {f0 f : ByteArray} {d0 k0 m0 t0 d k m t : Int} (h : Three w w1 A #[.string f0, .int .i64 d0, .int .i64 k0, .int .i64 m0, .int .i64 t0] #[.string f, .int .i64 d, .int .i64 k, .int .i64 m, .int .i64 t]) :
    (w1.cell? ⟨w.heap.size + 1, 0, none⟩ = some (.string f0) ∧ w1.cell? ⟨w.heap.size + 1, 1, none⟩ = some (.int .i64 d0) ∧ w1.cell? ⟨w.heap.size + 1, 2, none⟩ = some (.int .i64 k0) ∧ w1.cell? ⟨w.heap.size + 1, 3, none⟩ = some (.int .i64 m0) ∧ w1.cell? ⟨w.heap.size + 1, 4, none⟩ = some (.int .i64 t0)) ∧
    (w1.cell? ⟨w.heap.size + 1 + 1, 0, none⟩ = some (.string f) ∧ w1.cell? ⟨w.heap.size + 1 + 1, 1, none⟩ = some (.int .i64 d) ∧ w1.cell? ⟨w.heap.size + 1 + 1, 2, none⟩ = some (.int .i64 k) ∧ w1.cell? ⟨w.heap.size + 1 + 1, 3, none⟩ = some (.int .i64 m) ∧ w1.cell? ⟨w.heap.size + 1 + 1, 4, none⟩ = some (.int .i64 t)) := by
  refine ⟨⟨?_, ?_, ?_, ?_, ?_⟩, ?_, ?_, ?_, ?_, ?_⟩
  all_goals first | (rw [cell_of_row w1 _ _ _ _ _ h.res]; rfl) | (rw [cell_of_row w1 _ _ _ _ _ h.date]; rfl)

theorem put5 {w3 : World} {g : Nat} {o0 o1 o2 o3 o4 : Value} (h : w3.heap[g]? = some (.cells #[o0, o1, o2, o3, o4] 34 (0, 0))) (v0 v1 v2 v3 v4 : Value) :
    ((((((w3.setCell ⟨g, 0, none⟩ v0).setCell ⟨g, 1, none⟩ v1).setCell ⟨g, 2, none⟩ v2).setCell ⟨g, 3, none⟩ v3).setCell ⟨g, 4, none⟩ v4).drew).heap[g]? = some (.cells #[v0, v1, v2, v3, v4] 34 (0, 0)) := by
  have e0 := heap_setCell_same w3 g 0 _ 34 v0 h
  have e1 := heap_setCell_same _ g 1 _ 34 v1 e0
  have e2 := heap_setCell_same _ g 2 _ 34 v2 e1
  have e3 := heap_setCell_same _ g 3 _ 34 v3 e2
  have e4 := heap_setCell_same _ g 4 _ 34 v4 e3
  have key : ((((#[o0, o1, o2, o3, o4].setIfInBounds 0 v0).setIfInBounds 1 v1).setIfInBounds 2 v2).setIfInBounds 3 v3).setIfInBounds 4 v4 = #[v0, v1, v2, v3, v4] := by simp
  rw [key] at e4
  have hd : ∀ W : World, W.drew.heap = W.heap := fun _ => rfl
  rw [hd]
  exact e4

set_option maxRecDepth 100000 in
set_option maxHeartbeats 2000000 in
theorem dgen_J0 (K A B C : Int) (G H M S F : Int) (K0 : 0 ≤ K) (K9 : K ≤ 255) (A0 : 0 ≤ A) (A9 : A ≤ 65535) (B0 : 0 ≤ B) (B9 : B ≤ 65535) (C0 : 0 ≤ C) (C9 : C ≤ 65535)
    (G0 : 0 ≤ G) (G9 : G ≤ 255) (H0 : 0 ≤ H) (H9 : H ≤ 65535) (M0 : 0 ≤ M) (M9 : M ≤ 65535) (S0 : 0 ≤ S) (S9 : S ≤ 65535) (F0 : 0 ≤ F) (F9 : F ≤ 255) (k1 : (K % 3 == 0) = true) (w : World) :
    Calls Ybad.prog 8 #[.agg #[.int .u8 K, .int .u16 A, .int .u16 B, .int .u16 C, .bool false, .int .u8 G, .int .u16 H, .int .u16 M, .int .u16 S, .int .u8 F]] w fun e w' =>
      ∃ l f d k m t, e = .returned (.tuple #[.string (strB l), .agg (dateCells f d k m t)]) ∧ DateT l f d k m t ∧ l.length ≤ 40 ∧ Below w.heap.size w w' := by
  obtain ⟨x, hx, hx2⟩ := nat_mod A 365 (by decide)
  go_enter Ybad.func8, Ybad.ntmps8
  go_wp2_with fail
  refine (itoa_int _ (by omega) (by omega) _).mono ?_
  rintro e w1 ⟨X, rfl, hX, hb1⟩
  have HT1 := hide (Three.start w w1 _ _ _ hb1)
  have hsX := Num.size hX
  clear hb1
  go_wp2_with (refine store_three rfl (.tmp 5) _ rfl _ rfl rfl HT1.out rfl rfl (all_one rfl) ?_)
  intro v2 T2
  have q4 : v2.cell? ⟨w.heap.size, 4, none⟩ = some (.bool false) := cell_of_row v2 _ 4 _ _ _ T2.arg
  have q5 : v2.cell? ⟨w.heap.size + 1 + 1, 4, none⟩ = some (.int .i64 0) := cell_of_row v2 _ 4 _ _ _ T2.date
  have q6 := T2.free.2 4
  have HT := hide T2
  clear T2
  go_wp2_with fail
  have T3 := HT.out.time 7200
  clear q4 q5 q6 HT
  generalize v2.setCell ⟨w.heap.size + 1 + 1, 4, none⟩ (.int .i64 7200) = v3 at T3 ⊢
  obtain ⟨⟨r0, r1, r2, r3, r4⟩, c0, c1, c2, c3, c4⟩ := T3.cells
  obtain ⟨z1, z2⟩ := T3.free
  have HT3 := hide T3
  clear T3
  go_region_held3 (fun w' => w'.cell? ⟨w.heap.size + 1 + 1, 0, none⟩ = some (.string (ByteArray.mk #[74])) ∧ w'.cell? ⟨w.heap.size + 1 + 1, 1, none⟩ = some (.int .i64 (1 + x)) ∧ w'.cell? ⟨w.heap.size + 1 + 1, 2, none⟩ = some (.int .i64 0) ∧ w'.cell? ⟨w.heap.size + 1 + 1, 3, none⟩ = some (.int .i64 0) ∧ w'.cell? ⟨w.heap.size + 1 + 1, 4, none⟩ = some (.int .i64 7200)) ((go_simp; done)) (fail)
  go_wp2
  have lenX := hX.len
  have hD : DateT (74 :: X) [74] (1 + (x : Int)) 0 0 7200 := ⟨74 :: X, .inl ⟨X, _, rfl, hX, by omega, by omega, rfl, by omega, rfl, rfl⟩, .inl ⟨rfl, rfl⟩⟩
  refine bodyPost_ret (results_tmp_row (p := 3) (u := 2) rfl _ _ _ 34 _ (0, 0) _ _ rfl rfl (put5 HT3.out.res _ _ _ _ _) Ybad.underlying34 rfl info34) rfl ⟨(74 :: X), [74], (1 + (x : Int)), 0, 0, 7200, ret_sd ?_ rfl, hD, by first | omega | (simp; omega), (((((HT3.out.below.setCell (by simp) _).setCell (by simp) _).setCell (by simp) _).setCell (by simp) _).setCell (by simp) _).drew⟩
  try simp only [lit0, lit1, strB_append]
  try simp

set_option maxRecDepth 100000 in
set_option maxHeartbeats 2000000 in
theorem dgen_J1 (K A B C : Int) (G H M S F : Int) (K0 : 0 ≤ K) (K9 : K ≤ 255) (A0 : 0 ≤ A) (A9 : A ≤ 65535) (B0 : 0 ≤ B) (B9 : B ≤ 65535) (C0 : 0 ≤ C) (C9 : C ≤ 65535)
    (G0 : 0 ≤ G) (G9 : G ≤ 255) (H0 : 0 ≤ H) (H9 : H ≤ 65535) (M0 : 0 ≤ M) (M9 : M ≤ 65535) (S0 : 0 ≤ S) (S9 : S ≤ 65535) (F0 : 0 ≤ F) (F9 : F ≤ 255) (k1 : (K % 3 == 0) = true) (w : World) :
    Calls Ybad.prog 8 #[.agg #[.int .u8 K, .int .u16 A, .int .u16 B, .int .u16 C, .bool true, .int .u8 G, .int .u16 H, .int .u16 M, .int .u16 S, .int .u8 F]] w fun e w' =>
      ∃ l f d k m t, e = .returned (.tuple #[.string (strB l), .agg (dateCells f d k m t)]) ∧ DateT l f d k m t ∧ l.length ≤ 40 ∧ Below w.heap.size w w' := by
  obtain ⟨x, hx, hx2⟩ := nat_mod A 365 (by decide)
  go_enter Ybad.func8, Ybad.ntmps8
  go_wp2_with fail
  refine (itoa_int _ (by omega) (by omega) _).mono ?_
  rintro e w1 ⟨X, rfl, hX, hb1⟩
  have HT1 := hide (Three.start w w1 _ _ _ hb1)
  have hsX := Num.size hX
  clear hb1
  go_wp2_with (refine store_three rfl (.tmp 5) _ rfl _ rfl rfl HT1.out rfl rfl (all_one rfl) ?_)
  intro v2 T2
  have q4 : v2.cell? ⟨w.heap.size, 4, none⟩ = some (.bool true) := cell_of_row v2 _ 4 _ _ _ T2.arg
  have p0 : v2.cell? ⟨w.heap.size, 5, none⟩ = some (.int .u8 G) := cell_of_row v2 _ 5 _ _ _ T2.arg
  have p1 : v2.cell? ⟨w.heap.size, 6, none⟩ = some (.int .u16 H) := cell_of_row v2 _ 6 _ _ _ T2.arg
  have p2 : v2.cell? ⟨w.heap.size, 7, none⟩ = some (.int .u16 M) := cell_of_row v2 _ 7 _ _ _ T2.arg
  have p3 : v2.cell? ⟨w.heap.size, 8, none⟩ = some (.int .u16 S) := cell_of_row v2 _ 8 _ _ _ T2.arg
  have p4 : v2.cell? ⟨w.heap.size, 9, none⟩ = some (.int .u8 F) := cell_of_row v2 _ 9 _ _ _ T2.arg
  have q5 : v2.cell? ⟨w.heap.size + 1 + 1, 4, none⟩ = some (.int .i64 0) := cell_of_row v2 _ 4 _ _ _ T2.date
  have q6 := T2.free.2 4
  have HT := hide T2
  clear T2
  go_wp2_with fail
  have T3 := HT.out.time 7200
  clear q4 q5 q6 HT p0 p1 p2 p3 p4
  generalize v2.setCell ⟨w.heap.size + 1 + 1, 4, none⟩ (.int .i64 7200) = v3 at T3 ⊢
  have HT3 := hide T3
  clear T3
  refine (off_ok G H M S F G0 G9 H0 H9 M0 M9 S0 S9 F0 F9 _).mono ?_
  rintro e v4 ⟨O, tv, rfl, hO, hO2, hb4⟩
  have T4 := HT3.out.more hb4
  have hsO := bsize hO2
  clear hb4 HT3
  have q5 : v4.cell? ⟨w.heap.size + 1 + 1, 4, none⟩ = some (.int .i64 7200) := cell_of_row v4 _ 4 _ _ _ T4.date
  have q6 := T4.free.2 4
  have HT := hide T4
  clear T4
  go_wp2_with fail
  have T3 := HT.out.time tv
  clear q5 q6 HT
  generalize v4.setCell ⟨w.heap.size + 1 + 1, 4, none⟩ (.int .i64 tv) = v5 at T3 ⊢
  obtain ⟨⟨r0, r1, r2, r3, r4⟩, c0, c1, c2, c3, c4⟩ := T3.cells
  obtain ⟨z1, z2⟩ := T3.free
  have HT3 := hide T3
  clear T3
  go_region_held3 (fun w' => w'.cell? ⟨w.heap.size + 1 + 1, 0, none⟩ = some (.string (ByteArray.mk #[74])) ∧ w'.cell? ⟨w.heap.size + 1 + 1, 1, none⟩ = some (.int .i64 (1 + x)) ∧ w'.cell? ⟨w.heap.size + 1 + 1, 2, none⟩ = some (.int .i64 0) ∧ w'.cell? ⟨w.heap.size + 1 + 1, 3, none⟩ = some (.int .i64 0) ∧ w'.cell? ⟨w.heap.size + 1 + 1, 4, none⟩ = some (.int .i64 tv)) ((go_simp; done)) (fail)
  go_wp2
  have lenX := hX.len
  have hD : DateT ((74 :: X) ++ 47 :: O) [74] (1 + (x : Int)) 0 0 tv := ⟨74 :: X, .inl ⟨X, _, rfl, hX, by omega, by omega, rfl, by omega, rfl, rfl⟩, .inr ⟨O, tv, rfl, hO, rfl⟩⟩
  refine bodyPost_ret (results_tmp_row (p := 3) (u := 2) rfl _ _ _ 34 _ (0, 0) _ _ rfl rfl (put5 HT3.out.res _ _ _ _ _) Ybad.underlying34 rfl info34) rfl ⟨((74 :: X) ++ 47 :: O), [74], (1 + (x : Int)), 0, 0, tv, ret_sd ?_ rfl, hD, by first | omega | (simp; omega), (((((HT3.out.below.setCell (by simp) _).setCell (by simp) _).setCell (by simp) _).setCell (by simp) _).setCell (by simp) _).drew⟩
  try simp only [lit0, lit1, strB_append]
  try simp

set_option maxRecDepth 100000 in
set_option maxHeartbeats 2000000 in
theorem dgen_M0 (K A B C : Int) (G H M S F : Int) (K0 : 0 ≤ K) (K9 : K ≤ 255) (A0 : 0 ≤ A) (A9 : A ≤ 65535) (B0 : 0 ≤ B) (B9 : B ≤ 65535) (C0 : 0 ≤ C) (C9 : C ≤ 65535)
    (G0 : 0 ≤ G) (G9 : G ≤ 255) (H0 : 0 ≤ H) (H9 : H ≤ 65535) (M0 : 0 ≤ M) (M9 : M ≤ 65535) (S0 : 0 ≤ S) (S9 : S ≤ 65535) (F0 : 0 ≤ F) (F9 : F ≤ 255) (k1 : (K % 3 == 0) = false) (k2 : (K % 3 == 1) = true) (w : World) :
    Calls Ybad.prog 8 #[.agg #[.int .u8 K, .int .u16 A, .int .u16 B, .int .u16 C, .bool false, .int .u8 G, .int .u16 H, .int .u16 M, .int .u16 S, .int .u8 F]] w fun e w' =>
      ∃ l f d k m t, e = .returned (.tuple #[.string (strB l), .agg (dateCells f d k m t)]) ∧ DateT l f d k m t ∧ l.length ≤ 40 ∧ Below w.heap.size w w' := by
  obtain ⟨x, hx, hx2⟩ := nat_mod A 12 (by decide)
  obtain ⟨y, hy, hy2⟩ := nat_mod B 5 (by decide)
  obtain ⟨z, hz, hz2⟩ := nat_mod C 7 (by decide)
  go_enter Ybad.func8, Ybad.ntmps8
  go_wp2_with fail
  refine (itoa_int _ (by omega) (by omega) _).mono ?_
  rintro e w1 ⟨X, rfl, hX, hb1⟩
  have HT1 := hide (Three.start w w1 _ _ _ hb1)
  have hsX := Num.size hX
  clear hb1
  go_wp2_with fail
  refine (itoa_int _ (by omega) (by omega) _).mono ?_
  rintro e w2 ⟨Y, rfl, hY, hb2⟩
  have HT2 := hide (HT1.out.more hb2)
  have hsY := Num.size hY
  clear hb2
  go_wp2_with fail
  refine (itoa_int _ (by omega) (by omega) _).mono ?_
  rintro e w3 ⟨Z, rfl, hZ, hb3⟩
  have HT3 := hide (HT2.out.more hb3)
  have hsZ := Num.size hZ
  clear hb3
  go_wp2_with (refine store_three rfl (.tmp 5) _ rfl _ rfl rfl HT3.out rfl rfl (all_one rfl) ?_)
  intro v2 T2
  have q4 : v2.cell? ⟨w.heap.size, 4, none⟩ = some (.bool false) := cell_of_row v2 _ 4 _ _ _ T2.arg
  have q5 : v2.cell? ⟨w.heap.size + 1 + 1, 4, none⟩ = some (.int .i64 0) := cell_of_row v2 _ 4 _ _ _ T2.date
  have q6 := T2.free.2 4
  have HT := hide T2
  clear T2
  go_wp2_with fail
  have T3 := HT.out.time 7200
  clear q4 q5 q6 HT
  generalize v2.setCell ⟨w.heap.size + 1 + 1, 4, none⟩ (.int .i64 7200) = v3 at T3 ⊢
  obtain ⟨⟨r0, r1, r2, r3, r4⟩, c0, c1, c2, c3, c4⟩ := T3.cells
  obtain ⟨z1, z2⟩ := T3.free
  have HT3 := hide T3
  clear T3
  go_region_held3 (fun w' => w'.cell? ⟨w.heap.size + 1 + 1, 0, none⟩ = some (.string (ByteArray.mk #[77])) ∧ w'.cell? ⟨w.heap.size + 1 + 1, 1, none⟩ = some (.int .i64 z) ∧ w'.cell? ⟨w.heap.size + 1 + 1, 2, none⟩ = some (.int .i64 (1 + y)) ∧ w'.cell? ⟨w.heap.size + 1 + 1, 3, none⟩ = some (.int .i64 (1 + x)) ∧ w'.cell? ⟨w.heap.size + 1 + 1, 4, none⟩ = some (.int .i64 7200)) ((go_simp; done)) (fail)
  go_wp2
  have lenX := hX.len
  have lenY := hY.len
  have lenZ := hZ.len
  have hD : DateT (77 :: (X ++ 46 :: (Y ++ 46 :: Z))) [77] (z : Int) (1 + (y : Int)) (1 + (x : Int)) 7200 := ⟨77 :: (X ++ 46 :: (Y ++ 46 :: Z)), .inr (.inl ⟨X, Y, Z, _, _, _, rfl, hX, by omega, by omega, hY, by omega, by omega, hZ, by omega, rfl, by omega, by omega, by omega⟩), .inl ⟨rfl, rfl⟩⟩
  refine bodyPost_ret (results_tmp_row (p := 3) (u := 2) rfl _ _ _ 34 _ (0, 0) _ _ rfl rfl (put5 HT3.out.res _ _ _ _ _) Ybad.underlying34 rfl info34) rfl ⟨(77 :: (X ++ 46 :: (Y ++ 46 :: Z))), [77], (z : Int), (1 + (y : Int)), (1 + (x : Int)), 7200, ret_sd ?_ rfl, hD, by first | omega | (simp; omega), (((((HT3.out.below.setCell (by simp) _).setCell (by simp) _).setCell (by simp) _).setCell (by simp) _).setCell (by simp) _).drew⟩
  try simp only [lit0, lit1, strB_append]
  try simp

set_option maxRecDepth 100000 in
set_option maxHeartbeats 2000000 in
theorem dgen_M1 (K A B C : Int) (G H M S F : Int) (K0 : 0 ≤ K) (K9 : K ≤ 255) (A0 : 0 ≤ A) (A9 : A ≤ 65535) (B0 : 0 ≤ B) (B9 : B ≤ 65535) (C0 : 0 ≤ C) (C9 : C ≤ 65535)
    (G0 : 0 ≤ G) (G9 : G ≤ 255) (H0 : 0 ≤ H) (H9 : H ≤ 65535) (M0 : 0 ≤ M) (M9 : M ≤ 65535) (S0 : 0 ≤ S) (S9 : S ≤ 65535) (F0 : 0 ≤ F) (F9 : F ≤ 255) (k1 : (K % 3 == 0) = false) (k2 : (K % 3 == 1) = true) (w : World) :
    Calls Ybad.prog 8 #[.agg #[.int .u8 K, .int .u16 A, .int .u16 B, .int .u16 C, .bool true, .int .u8 G, .int .u16 H, .int .u16 M, .int .u16 S, .int .u8 F]] w fun e w' =>
      ∃ l f d k m t, e = .returned (.tuple #[.string (strB l), .agg (dateCells f d k m t)]) ∧ DateT l f d k m t ∧ l.length ≤ 40 ∧ Below w.heap.size w w' := by
  obtain ⟨x, hx, hx2⟩ := nat_mod A 12 (by decide)
  obtain ⟨y, hy, hy2⟩ := nat_mod B 5 (by decide)
  obtain ⟨z, hz, hz2⟩ := nat_mod C 7 (by decide)
  go_enter Ybad.func8, Ybad.ntmps8
  go_wp2_with fail
  refine (itoa_int _ (by omega) (by omega) _).mono ?_
  rintro e w1 ⟨X, rfl, hX, hb1⟩
  have HT1 := hide (Three.start w w1 _ _ _ hb1)
  have hsX := Num.size hX
  clear hb1
  go_wp2_with fail
  refine (itoa_int _ (by omega) (by omega) _).mono ?_
  rintro e w2 ⟨Y, rfl, hY, hb2⟩
  have HT2 := hide (HT1.out.more hb2)
  have hsY := Num.size hY
  clear hb2
  go_wp2_with fail
  refine (itoa_int _ (by omega) (by omega) _).mono ?_
  rintro e w3 ⟨Z, rfl, hZ, hb3⟩
  have HT3 := hide (HT2.out.more hb3)
  have hsZ := Num.size hZ
  clear hb3
  go_wp2_with (refine store_three rfl (.tmp 5) _ rfl _ rfl rfl HT3.out rfl rfl (all_one rfl) ?_)
  intro v2 T2
  have q4 : v2.cell? ⟨w.heap.size, 4, none⟩ = some (.bool true) := cell_of_row v2 _ 4 _ _ _ T2.arg
  have p0 : v2.cell? ⟨w.heap.size, 5, none⟩ = some (.int .u8 G) := cell_of_row v2 _ 5 _ _ _ T2.arg
  have p1 : v2.cell? ⟨w.heap.size, 6, none⟩ = some (.int .u16 H) := cell_of_row v2 _ 6 _ _ _ T2.arg
  have p2 : v2.cell? ⟨w.heap.size, 7, none⟩ = some (.int .u16 M) := cell_of_row v2 _ 7 _ _ _ T2.arg
  have p3 : v2.cell? ⟨w.heap.size, 8, none⟩ = some (.int .u16 S) := cell_of_row v2 _ 8 _ _ _ T2.arg
  have p4 : v2.cell? ⟨w.heap.size, 9, none⟩ = some (.int .u8 F) := cell_of_row v2 _ 9 _ _ _ T2.arg
  have q5 : v2.cell? ⟨w.heap.size + 1 + 1, 4, none⟩ = some (.int .i64 0) := cell_of_row v2 _ 4 _ _ _ T2.date
  have q6 := T2.free.2 4
  have HT := hide T2
  clear T2
  go_wp2_with fail
  have T3 := HT.out.time 7200
  clear q4 q5 q6 HT p0 p1 p2 p3 p4
  generalize v2.setCell ⟨w.heap.size + 1 + 1, 4, none⟩ (.int .i64 7200) = v3 at T3 ⊢
  have HT3 := hide T3
  clear T3
  refine (off_ok G H M S F G0 G9 H0 H9 M0 M9 S0 S9 F0 F9 _).mono ?_
  rintro e v4 ⟨O, tv, rfl, hO, hO2, hb4⟩
  have T4 := HT3.out.more hb4
  have hsO := bsize hO2
  clear hb4 HT3
  have q5 : v4.cell? ⟨w.heap.size + 1 + 1, 4, none⟩ = some (.int .i64 7200) := cell_of_row v4 _ 4 _ _ _ T4.date
  have q6 := T4.free.2 4
  have HT := hide T4
  clear T4
  go_wp2_with fail
  have T3 := HT.out.time tv
  clear q5 q6 HT
  generalize v4.setCell ⟨w.heap.size + 1 + 1, 4, none⟩ (.int .i64 tv) = v5 at T3 ⊢
  obtain ⟨⟨r0, r1, r2, r3, r4⟩, c0, c1, c2, c3, c4⟩ := T3.cells
  obtain ⟨z1, z2⟩ := T3.free
  have HT3 := hide T3
  clear T3
  go_region_held3 (fun w' => w'.cell? ⟨w.heap.size + 1 + 1, 0, none⟩ = some (.string (ByteArray.mk #[77])) ∧ w'.cell? ⟨w.heap.size + 1 + 1, 1, none⟩ = some (.int .i64 z) ∧ w'.cell? ⟨w.heap.size + 1 + 1, 2, none⟩ = some (.int .i64 (1 + y)) ∧ w'.cell? ⟨w.heap.size + 1 + 1, 3, none⟩ = some (.int .i64 (1 + x)) ∧ w'.cell? ⟨w.heap.size + 1 + 1, 4, none⟩ = some (.int .i64 tv)) ((go_simp; done)) (fail)
  go_wp2
  have lenX := hX.len
  have lenY := hY.len
  have lenZ := hZ.len
  have hD : DateT ((77 :: (X ++ 46 :: (Y ++ 46 :: Z))) ++ 47 :: O) [77] (z : Int) (1 + (y : Int)) (1 + (x : Int)) tv := ⟨77 :: (X ++ 46 :: (Y ++ 46 :: Z)), .inr (.inl ⟨X, Y, Z, _, _, _, rfl, hX, by omega, by omega, hY, by omega, by omega, hZ, by omega, rfl, by omega, by omega, by omega⟩), .inr ⟨O, tv, rfl, hO, rfl⟩⟩
  refine bodyPost_ret (results_tmp_row (p := 3) (u := 2) rfl _ _ _ 34 _ (0, 0) _ _ rfl rfl (put5 HT3.out.res _ _ _ _ _) Ybad.underlying34 rfl info34) rfl ⟨((77 :: (X ++ 46 :: (Y ++ 46 :: Z))) ++ 47 :: O), [77], (z : Int), (1 + (y : Int)), (1 + (x : Int)), tv, ret_sd ?_ rfl, hD, by first | omega | (simp; omega), (((((HT3.out.below.setCell (by simp) _).setCell (by simp) _).setCell (by simp) _).setCell (by simp) _).setCell (by simp) _).drew⟩
  try simp only [lit0, lit1, strB_append]
  try simp

set_option maxRecDepth 100000 in
set_option maxHeartbeats 2000000 in
theorem dgen_N0 (K A B C : Int) (G H M S F : Int) (K0 : 0 ≤ K) (K9 : K ≤ 255) (A0 : 0 ≤ A) (A9 : A ≤ 65535) (B0 : 0 ≤ B) (B9 : B ≤ 65535) (C0 : 0 ≤ C) (C9 : C ≤ 65535)
    (G0 : 0 ≤ G) (G9 : G ≤ 255) (H0 : 0 ≤ H) (H9 : H ≤ 65535) (M0 : 0 ≤ M) (M9 : M ≤ 65535) (S0 : 0 ≤ S) (S9 : S ≤ 65535) (F0 : 0 ≤ F) (F9 : F ≤ 255) (k1 : (K % 3 == 0) = false) (k2 : (K % 3 == 1) = false) (w : World) :
    Calls Ybad.prog 8 #[.agg #[.int .u8 K, .int .u16 A, .int .u16 B, .int .u16 C, .bool false, .int .u8 G, .int .u16 H, .int .u16 M, .int .u16 S, .int .u8 F]] w fun e w' =>
      ∃ l f d k m t, e = .returned (.tuple #[.string (strB l), .agg (dateCells f d k m t)]) ∧ DateT l f d k m t ∧ l.length ≤ 40 ∧ Below w.heap.size w w' := by
  obtain ⟨x, hx, hx2⟩ := nat_mod A 366 (by decide)
  go_enter Ybad.func8, Ybad.ntmps8
  go_wp2_with fail
  refine (itoa_int _ (by omega) (by omega) _).mono ?_
  rintro e w1 ⟨X, rfl, hX, hb1⟩
  have HT1 := hide (Three.start w w1 _ _ _ hb1)
  have hsX := Num.size hX
  clear hb1
  go_wp2_with (refine store_three rfl (.tmp 5) _ rfl _ rfl rfl HT1.out rfl rfl (all_one rfl) ?_)
  intro v2 T2
  have q4 : v2.cell? ⟨w.heap.size, 4, none⟩ = some (.bool false) := cell_of_row v2 _ 4 _ _ _ T2.arg
  have q5 : v2.cell? ⟨w.heap.size + 1 + 1, 4, none⟩ = some (.int .i64 0) := cell_of_row v2 _ 4 _ _ _ T2.date
  have q6 := T2.free.2 4
  have HT := hide T2
  clear T2
  go_wp2_with fail
  have T3 := HT.out.time 7200
  clear q4 q5 q6 HT
  generalize v2.setCell ⟨w.heap.size + 1 + 1, 4, none⟩ (.int .i64 7200) = v3 at T3 ⊢
  obtain ⟨⟨r0, r1, r2, r3, r4⟩, c0, c1, c2, c3, c4⟩ := T3.cells
  obtain ⟨z1, z2⟩ := T3.free
  have HT3 := hide T3
  clear T3
  go_region_held3 (fun w' => w'.cell? ⟨w.heap.size + 1 + 1, 0, none⟩ = some (.string (ByteArray.mk #[])) ∧ w'.cell? ⟨w.heap.size + 1 + 1, 1, none⟩ = some (.int .i64 x) ∧ w'.cell? ⟨w.heap.size + 1 + 1, 2, none⟩ = some (.int .i64 0) ∧ w'.cell? ⟨w.heap.size + 1 + 1, 3, none⟩ = some (.int .i64 0) ∧ w'.cell? ⟨w.heap.size + 1 + 1, 4, none⟩ = some (.int .i64 7200)) ((go_simp; done)) (fail)
  go_wp2
  have lenX := hX.len
  have hD : DateT (X) [] (x : Int) 0 0 7200 := ⟨X, .inr (.inr ⟨X, _, rfl, hX, by omega, rfl, by omega, rfl, rfl⟩), .inl ⟨rfl, rfl⟩⟩
  refine bodyPost_ret (results_tmp_row (p := 3) (u := 2) rfl _ _ _ 34 _ (0, 0) _ _ rfl rfl (put5 HT3.out.res _ _ _ _ _) Ybad.underlying34 rfl info34) rfl ⟨(X), [], (x : Int), 0, 0, 7200, ret_sd ?_ rfl, hD, by first | omega | (simp; omega), (((((HT3.out.below.setCell (by simp) _).setCell (by simp) _).setCell (by simp) _).setCell (by simp) _).setCell (by simp) _).drew⟩
  try simp only [lit0, lit1, strB_append]
  try simp

set_option maxRecDepth 100000 in
set_option maxHeartbeats 2000000 in
theorem dgen_N1 (K A B C : Int) (G H M S F : Int) (K0 : 0 ≤ K) (K9 : K ≤ 255) (A0 : 0 ≤ A) (A9 : A ≤ 65535) (B0 : 0 ≤ B) (B9 : B ≤ 65535) (C0 : 0 ≤ C) (C9 : C ≤ 65535)
    (G0 : 0 ≤ G) (G9 : G ≤ 255) (H0 : 0 ≤ H) (H9 : H ≤ 65535) (M0 : 0 ≤ M) (M9 : M ≤ 65535) (S0 : 0 ≤ S) (S9 : S ≤ 65535) (F0 : 0 ≤ F) (F9 : F ≤ 255) (k1 : (K % 3 == 0) = false) (k2 : (K % 3 == 1) = false) (w : World) :
    Calls Ybad.prog 8 #[.agg #[.int .u8 K, .int .u16 A, .int .u16 B, .int .u16 C, .bool true, .int .u8 G, .int .u16 H, .int .u16 M, .int .u16 S, .int .u8 F]] w fun e w' =>
      ∃ l f d k m t, e = .returned (.tuple #[.string (strB l), .agg (dateCells f d k m t)]) ∧ DateT l f d k m t ∧ l.length ≤ 40 ∧ Below w.heap.size w w' := by
  obtain ⟨x, hx, hx2⟩ := nat_mod A 366 (by decide)
  go_enter Ybad.func8, Ybad.ntmps8
  go_wp2_with fail
  refine (itoa_int _ (by omega) (by omega) _).mono ?_
  rintro e w1 ⟨X, rfl, hX, hb1⟩
  have HT1 := hide (Three.start w w1 _ _ _ hb1)
  have hsX := Num.size hX
  clear hb1
  go_wp2_with (refine store_three rfl (.tmp 5) _ rfl _ rfl rfl HT1.out rfl rfl (all_one rfl) ?_)
  intro v2 T2
  have q4 : v2.cell? ⟨w.heap.size, 4, none⟩ = some (.bool true) := cell_of_row v2 _ 4 _ _ _ T2.arg
  have p0 : v2.cell? ⟨w.heap.size, 5, none⟩ = some (.int .u8 G) := cell_of_row v2 _ 5 _ _ _ T2.arg
  have p1 : v2.cell? ⟨w.heap.size, 6, none⟩ = some (.int .u16 H) := cell_of_row v2 _ 6 _ _ _ T2.arg
  have p2 : v2.cell? ⟨w.heap.size, 7, none⟩ = some (.int .u16 M) := cell_of_row v2 _ 7 _ _ _ T2.arg
  have p3 : v2.cell? ⟨w.heap.size, 8, none⟩ = some (.int .u16 S) := cell_of_row v2 _ 8 _ _ _ T2.arg
  have p4 : v2.cell? ⟨w.heap.size, 9, none⟩ = some (.int .u8 F) := cell_of_row v2 _ 9 _ _ _ T2.arg
  have q5 : v2.cell? ⟨w.heap.size + 1 + 1, 4, none⟩ = some (.int .i64 0) := cell_of_row v2 _ 4 _ _ _ T2.date
  have q6 := T2.free.2 4
  have HT := hide T2
  clear T2
  go_wp2_with fail
  have T3 := HT.out.time 7200
  clear q4 q5 q6 HT p0 p1 p2 p3 p4
  generalize v2.setCell ⟨w.heap.size + 1 + 1, 4, none⟩ (.int .i64 7200) = v3 at T3 ⊢
  have HT3 := hide T3
  clear T3
  refine (off_ok G H M S F G0 G9 H0 H9 M0 M9 S0 S9 F0 F9 _).mono ?_
  rintro e v4 ⟨O, tv, rfl, hO, hO2, hb4⟩
  have T4 := HT3.out.more hb4
  have hsO := bsize hO2
  clear hb4 HT3
  have q5 : v4.cell? ⟨w.heap.size + 1 + 1, 4, none⟩ = some (.int .i64 7200) := cell_of_row v4 _ 4 _ _ _ T4.date
  have q6 := T4.free.2 4
  have HT := hide T4
  clear T4
  go_wp2_with fail
  have T3 := HT.out.time tv
  clear q5 q6 HT
  generalize v4.setCell ⟨w.heap.size + 1 + 1, 4, none⟩ (.int .i64 tv) = v5 at T3 ⊢
  obtain ⟨⟨r0, r1, r2, r3, r4⟩, c0, c1, c2, c3, c4⟩ := T3.cells
  obtain ⟨z1, z2⟩ := T3.free
  have HT3 := hide T3
  clear T3
  go_region_held3 (fun w' => w'.cell? ⟨w.heap.size + 1 + 1, 0, none⟩ = some (.string (ByteArray.mk #[])) ∧ w'.cell? ⟨w.heap.size + 1 + 1, 1, none⟩ = some (.int .i64 x) ∧ w'.cell? ⟨w.heap.size + 1 + 1, 2, none⟩ = some (.int .i64 0) ∧ w'.cell? ⟨w.heap.size + 1 + 1, 3, none⟩ = some (.int .i64 0) ∧ w'.cell? ⟨w.heap.size + 1 + 1, 4, none⟩ = some (.int .i64 tv)) ((go_simp; done)) (fail)
  go_wp2
  have lenX := hX.len
  have hD : DateT ((X) ++ 47 :: O) [] (x : Int) 0 0 tv := ⟨X, .inr (.inr ⟨X, _, rfl, hX, by omega, rfl, by omega, rfl, rfl⟩), .inr ⟨O, tv, rfl, hO, rfl⟩⟩
  refine bodyPost_ret (results_tmp_row (p := 3) (u := 2) rfl _ _ _ 34 _ (0, 0) _ _ rfl rfl (put5 HT3.out.res _ _ _ _ _) Ybad.underlying34 rfl info34) rfl ⟨((X) ++ 47 :: O), [], (x : Int), 0, 0, tv, ret_sd ?_ rfl, hD, by first | omega | (simp; omega), (((((HT3.out.below.setCell (by simp) _).setCell (by simp) _).setCell (by simp) _).setCell (by simp) _).setCell (by simp) _).drew⟩
  try simp only [lit0, lit1, strB_append]
  try simp

/-- 'zzs2745adate'. -/
theorem dgen_ok (K A B C : Int) (ht : Bool) (G H M S F : Int) (K0 : 0 ≤ K) (K9 : K ≤ 255) (A0 : 0 ≤ A) (A9 : A ≤ 65535) (B0 : 0 ≤ B) (B9 : B ≤ 65535) (C0 : 0 ≤ C) (C9 : C ≤ 65535)
    (G0 : 0 ≤ G) (G9 : G ≤ 255) (H0 : 0 ≤ H) (H9 : H ≤ 65535) (M0 : 0 ≤ M) (M9 : M ≤ 65535) (S0 : 0 ≤ S) (S9 : S ≤ 65535) (F0 : 0 ≤ F) (F9 : F ≤ 255) (w : World) :
    Calls Ybad.prog 8 #[.agg #[.int .u8 K, .int .u16 A, .int .u16 B, .int .u16 C, .bool ht, .int .u8 G, .int .u16 H, .int .u16 M, .int .u16 S, .int .u8 F]] w fun e w' =>
      ∃ l f d k m t, e = .returned (.tuple #[.string (strB l), .agg (dateCells f d k m t)]) ∧ DateT l f d k m t ∧ l.length ≤ 40 ∧ Below w.heap.size w w' := by
  have hK : K % 3 = 0 ∨ K % 3 = 1 ∨ K % 3 = 2 := by omega
  rcases hK with g | g | g
  · cases ht with
    | false => exact dgen_J0 K A B C G H M S F K0 K9 A0 A9 B0 B9 C0 C9 G0 G9 H0 H9 M0 M9 S0 S9 F0 F9 (by rw [g]; rfl) w
    | true => exact dgen_J1 K A B C G H M S F K0 K9 A0 A9 B0 B9 C0 C9 G0 G9 H0 H9 M0 M9 S0 S9 F0 F9 (by rw [g]; rfl) w
  · cases ht with
    | false => exact dgen_M0 K A B C G H M S F K0 K9 A0 A9 B0 B9 C0 C9 G0 G9 H0 H9 M0 M9 S0 S9 F0 F9 (by rw [g]; rfl) (by rw [g]; rfl) w
    | true => exact dgen_M1 K A B C G H M S F K0 K9 A0 A9 B0 B9 C0 C9 G0 G9 H0 H9 M0 M9 S0 S9 F0 F9 (by rw [g]; rfl) (by rw [g]; rfl) w
  · cases ht with
    | false => exact dgen_N0 K A B C G H M S F K0 K9 A0 A9 B0 B9 C0 C9 G0 G9 H0 H9 M0 M9 S0 S9 F0 F9 (by rw [g]; rfl) (by rw [g]; rfl) w
    | true => exact dgen_N1 K A B C G H M S F K0 K9 A0 A9 B0 B9 C0 C9 G0 G9 H0 H9 M0 M9 S0 S9 F0 F9 (by rw [g]; rfl) (by rw [g]; rfl) w
end Go.Proofs.YbulkbdvcDoor.W
