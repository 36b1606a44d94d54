import Derived.Test.YbulkbdvcDoorItoa
import Derived.Test.YbulkbdvcDoorNumber
namespace Go.Proofs.YbulkbdvcDoor.W
open Go.RowKit
set_option linter.unusedSimpArgs false
set_option linter.unusedVariables false
open Go.Proofs.YbulkbdvcDoor.P Go.Proofs.YbulkbdvcDoor.B

theorem bcell {B : Nat} {W w1 : World} (hb : Below B W w1) : (∀ b o, b < B → w1.cell? ⟨b, o, none⟩ = W.cell? ⟨b, o, none⟩) ∧ (∀ b o, b < B → w1.frozen? ⟨b, o, none⟩ = W.frozen? ⟨b, o, none⟩) :=
  ⟨fun b o h => hb.cell (p := ⟨b, o, none⟩) h, fun b o h => hb.frozen (p := ⟨b, o, none⟩) h⟩

theorem lit1 (c : UInt8) : (ByteArray.mk #[c]) = strB [c] := rfl
theorem lit0 : (ByteArray.mk #[]) = strB [] := rfl

theorem Num.size {l : List UInt8} {n : Nat} (h : Num l n) : (strB l).size ≤ 3 := by rw [strB_size]; exact h.len

theorem ret_si {a b : ByteArray} {x y : Int} (h1 : a = b) (h2 : x = y) : Ending.returned (.tuple #[.string a, .int .i64 x]) = .returned (.tuple #[.string b, .int .i64 y]) := by rw [h1, h2]

/-- The field of an offset as the walk meets it: a natural number. -/
theorem nat_mod (z k : Int) (hk : 0 < k) : ∃ n : Nat, z % k = (n : Int) ∧ (n : Int) < k := by
  have h1 := Int.emod_nonneg z (show k ≠ 0 by omega)
  have h2 := Int.emod_lt_of_pos z hk
  exact ⟨(z % k).toNat, by omega, by omega⟩

set_option maxRecDepth 100000 in
set_option maxHeartbeats 400000 in
theorem off_n0 (G H M S F : Int) (G0 : 0 ≤ G) (G9 : G ≤ 255) (H0 : 0 ≤ H) (H9 : H ≤ 65535) (M0 : 0 ≤ M) (M9 : M ≤ 65535) (S0 : 0 ≤ S) (S9 : S ≤ 65535) (F0 : 0 ≤ F) (F9 : F ≤ 255) (g1 : (G % 3 == 1) = false) (g2 : (G % 3 == 2) = false) (f1 : ¬ 1 ≤ F % 3) (f2 : (F % 3 == 2) = false) (w : World) :
    Calls Ybad.prog 6 #[.agg #[.int .u8 G, .int .u16 H, .int .u16 M, .int .u16 S, .int .u8 F]] w fun e w' => ∃ l v, e = .returned (.tuple #[.string (strB l), .int .i64 v]) ∧ Off l v ∧ l.length ≤ 20 ∧ Below w.heap.size w w' := by
  obtain ⟨h, hh, hh2⟩ := nat_mod H 168 (by decide)
  obtain ⟨m, hm, hm2⟩ := nat_mod M 60 (by decide)
  obtain ⟨s, hs, hs2⟩ := nat_mod S 60 (by decide)
  
  go_enter Ybad.func6, Ybad.ntmps6
  go_wp2_with fail
  refine (itoa_ok h (by omega) _).mono ?_
  rintro e w1 ⟨L, rfl, hL, hb1⟩
  have hsL := Num.size hL
  have hc1 : w1.cell? ⟨w.heap.size, 4, none⟩ = some (.int .u8 F) := by rw [hb1.cell (p := ⟨w.heap.size, 4, none⟩) (by simp), World.cell?_alloc_at _ _ _ _ rfl]; rfl
  have hz1 : w.heap.size < w1.heap.size := by have := hb1.size; simp at this; omega
  have HB1 : Hid (Below w.heap.size w w1) := Below.trans ((Below.refl w.heap.size w).alloc (Nat.le_refl _) _) (hb1.mono (by simp))
  clear hb1
  go_wp2
  go_ret2
  have q1 := hL.len
  exact ⟨[] ++ (L ++ []), (h : Int) * 3600, ret_si (by simp only [lit0, lit1, strB_append]; simp) (by omega), ⟨[], L, h, [], (h : Int) * 3600, rfl, hL, by omega, .inl ⟨rfl, rfl⟩, .inl ⟨rfl, rfl⟩⟩, by simp; omega, HB1.out⟩

set_option maxRecDepth 100000 in
set_option maxHeartbeats 400000 in
theorem off_n1 (G H M S F : Int) (G0 : 0 ≤ G) (G9 : G ≤ 255) (H0 : 0 ≤ H) (H9 : H ≤ 65535) (M0 : 0 ≤ M) (M9 : M ≤ 65535) (S0 : 0 ≤ S) (S9 : S ≤ 65535) (F0 : 0 ≤ F) (F9 : F ≤ 255) (g1 : (G % 3 == 1) = false) (g2 : (G % 3 == 2) = false) (f1 : 1 ≤ F % 3) (f2 : (F % 3 == 2) = false) (w : World) :
    Calls Ybad.prog 6 #[.agg #[.int .u8 G, .int .u16 H, .int .u16 M, .int .u16 S, .int .u8 F]] w fun e w' => ∃ l v, e = .returned (.tuple #[.string (strB l), .int .i64 v]) ∧ Off l v ∧ l.length ≤ 20 ∧ Below w.heap.size w w' := by
  obtain ⟨h, hh, hh2⟩ := nat_mod H 168 (by decide)
  obtain ⟨m, hm, hm2⟩ := nat_mod M 60 (by decide)
  obtain ⟨s, hs, hs2⟩ := nat_mod S 60 (by decide)
  
  go_enter Ybad.func6, Ybad.ntmps6
  go_wp2_with fail
  refine (itoa_ok h (by omega) _).mono ?_
  rintro e w1 ⟨L, rfl, hL, hb1⟩
  have hsL := Num.size hL
  have hc1 : w1.cell? ⟨w.heap.size, 4, none⟩ = some (.int .u8 F) := by rw [hb1.cell (p := ⟨w.heap.size, 4, none⟩) (by simp), World.cell?_alloc_at _ _ _ _ rfl]; rfl
  have hz1 : w.heap.size < w1.heap.size := by have := hb1.size; simp at this; omega
  have HB1 : Hid (Below w.heap.size w w1) := Below.trans ((Below.refl w.heap.size w).alloc (Nat.le_refl _) _) (hb1.mono (by simp))
  clear hb1
  go_wp2_with fail
  refine (itoa_ok m (by omega) _).mono ?_
  rintro e w2 ⟨K, rfl, hK, hb2⟩
  have hsK := Num.size hK
  have hc2 : w2.cell? ⟨w.heap.size, 4, none⟩ = some (.int .u8 F) := by rw [hb2.cell (p := ⟨w.heap.size, 4, none⟩) hz1, hc1]
  have hz2 : w.heap.size < w2.heap.size := by have := hb2.size; omega
  have HB2 : Hid (Below w.heap.size w w2) := Below.trans HB1.out (hb2.mono (by omega))
  clear hb2
  go_wp2
  go_ret2
  have q1 := hL.len 
  have q2 := hK.len
  exact ⟨[] ++ (L ++ (58 :: K)), (h : Int) * 3600 + (m : Int) * 60, ret_si (by simp only [lit0, lit1, strB_append]; simp) (by omega), ⟨[], L, h, (58 :: K), (h : Int) * 3600 + (m : Int) * 60, rfl, hL, by omega, .inr (.inl ⟨K, m, rfl, hK, by omega, rfl⟩), .inl ⟨rfl, rfl⟩⟩, by simp; omega, HB2.out⟩

set_option maxRecDepth 100000 in
set_option maxHeartbeats 400000 in
theorem off_n2 (G H M S F : Int) (G0 : 0 ≤ G) (G9 : G ≤ 255) (H0 : 0 ≤ H) (H9 : H ≤ 65535) (M0 : 0 ≤ M) (M9 : M ≤ 65535) (S0 : 0 ≤ S) (S9 : S ≤ 65535) (F0 : 0 ≤ F) (F9 : F ≤ 255) (g1 : (G % 3 == 1) = false) (g2 : (G % 3 == 2) = false) (f1 : 1 ≤ F % 3) (f2 : (F % 3 == 2) = true) (w : World) :
    Calls Ybad.prog 6 #[.agg #[.int .u8 G, .int .u16 H, .int .u16 M, .int .u16 S, .int .u8 F]] w fun e w' => ∃ l v, e = .returned (.tuple #[.string (strB l), .int .i64 v]) ∧ Off l v ∧ l.length ≤ 20 ∧ Below w.heap.size w w' := by
  obtain ⟨h, hh, hh2⟩ := nat_mod H 168 (by decide)
  obtain ⟨m, hm, hm2⟩ := nat_mod M 60 (by decide)
  obtain ⟨s, hs, hs2⟩ := nat_mod S 60 (by decide)
  
  go_enter Ybad.func6, Ybad.ntmps6
  go_wp2_with fail
  refine (itoa_ok h (by omega) _).mono ?_
  rintro e w1 ⟨L, rfl, hL, hb1⟩
  have hsL := Num.size hL
  have hc1 : w1.cell? ⟨w.heap.size, 4, none⟩ = some (.int .u8 F) := by rw [hb1.cell (p := ⟨w.heap.size, 4, none⟩) (by simp), World.cell?_alloc_at _ _ _ _ rfl]; rfl
  have hz1 : w.heap.size < w1.heap.size := by have := hb1.size; simp at this; omega
  have HB1 : Hid (Below w.heap.size w w1) := Below.trans ((Below.refl w.heap.size w).alloc (Nat.le_refl _) _) (hb1.mono (by simp))
  clear hb1
  go_wp2_with fail
  refine (itoa_ok m (by omega) _).mono ?_
  rintro e w2 ⟨K, rfl, hK, hb2⟩
  have hsK := Num.size hK
  have hc2 : w2.cell? ⟨w.heap.size, 4, none⟩ = some (.int .u8 F) := by rw [hb2.cell (p := ⟨w.heap.size, 4, none⟩) hz1, hc1]
  have hz2 : w.heap.size < w2.heap.size := by have := hb2.size; omega
  have HB2 : Hid (Below w.heap.size w w2) := Below.trans HB1.out (hb2.mono (by omega))
  clear hb2
  go_wp2_with fail
  refine (itoa_ok s (by omega) _).mono ?_
  rintro e w3 ⟨J, rfl, hJ, hb3⟩
  have hsJ := Num.size hJ
  have hc3 : w3.cell? ⟨w.heap.size, 4, none⟩ = some (.int .u8 F) := by rw [hb3.cell (p := ⟨w.heap.size, 4, none⟩) hz2, hc2]
  have hz3 : w.heap.size < w3.heap.size := by have := hb3.size; omega
  have HB3 : Hid (Below w.heap.size w w3) := Below.trans HB2.out (hb3.mono (by omega))
  clear hb3
  go_wp2
  go_ret2
  have q1 := hL.len 
  have q2 := hK.len 
  have q3 := hJ.len
  exact ⟨[] ++ (L ++ (58 :: (K ++ 58 :: J))), (h : Int) * 3600 + (m : Int) * 60 + (s : Int), ret_si (by simp only [lit0, lit1, strB_append]; simp) (by omega), ⟨[], L, h, (58 :: (K ++ 58 :: J)), (h : Int) * 3600 + (m : Int) * 60 + (s : Int), rfl, hL, by omega, .inr (.inr ⟨K, m, J, s, rfl, hK, by omega, hJ, by omega, rfl⟩), .inl ⟨rfl, rfl⟩⟩, by simp; omega, HB3.out⟩

set_option maxRecDepth 100000 in
set_option maxHeartbeats 400000 in
theorem off_p0 (G H M S F : Int) (G0 : 0 ≤ G) (G9 : G ≤ 255) (H0 : 0 ≤ H) (H9 : H ≤ 65535) (M0 : 0 ≤ M) (M9 : M ≤ 65535) (S0 : 0 ≤ S) (S9 : S ≤ 65535) (F0 : 0 ≤ F) (F9 : F ≤ 255) (g1 : (G % 3 == 1) = true) (f1 : ¬ 1 ≤ F % 3) (f2 : (F % 3 == 2) = false) (w : World) :
    Calls Ybad.prog 6 #[.agg #[.int .u8 G, .int .u16 H, .int .u16 M, .int .u16 S, .int .u8 F]] w fun e w' => ∃ l v, e = .returned (.tuple #[.string (strB l), .int .i64 v]) ∧ Off l v ∧ l.length ≤ 20 ∧ Below w.heap.size w w' := by
  obtain ⟨h, hh, hh2⟩ := nat_mod H 168 (by decide)
  obtain ⟨m, hm, hm2⟩ := nat_mod M 60 (by decide)
  obtain ⟨s, hs, hs2⟩ := nat_mod S 60 (by decide)
  
  go_enter Ybad.func6, Ybad.ntmps6
  go_wp2_with fail
  refine (itoa_ok h (by omega) _).mono ?_
  rintro e w1 ⟨L, rfl, hL, hb1⟩
  have hsL := Num.size hL
  have hc1 : w1.cell? ⟨w.heap.size, 4, none⟩ = some (.int .u8 F) := by rw [hb1.cell (p := ⟨w.heap.size, 4, none⟩) (by simp), World.cell?_alloc_at _ _ _ _ rfl]; rfl
  have hz1 : w.heap.size < w1.heap.size := by have := hb1.size; simp at this; omega
  have HB1 : Hid (Below w.heap.size w w1) := Below.trans ((Below.refl w.heap.size w).alloc (Nat.le_refl _) _) (hb1.mono (by simp))
  clear hb1
  go_wp2
  go_ret2
  have q1 := hL.len
  exact ⟨[43] ++ (L ++ []), (h : Int) * 3600, ret_si (by simp only [lit0, lit1, strB_append]; simp) (by omega), ⟨[43], L, h, [], (h : Int) * 3600, rfl, hL, by omega, .inl ⟨rfl, rfl⟩, .inr (.inl ⟨rfl, rfl⟩)⟩, by simp; omega, HB1.out⟩

set_option maxRecDepth 100000 in
set_option maxHeartbeats 400000 in
theorem off_p1 (G H M S F : Int) (G0 : 0 ≤ G) (G9 : G ≤ 255) (H0 : 0 ≤ H) (H9 : H ≤ 65535) (M0 : 0 ≤ M) (M9 : M ≤ 65535) (S0 : 0 ≤ S) (S9 : S ≤ 65535) (F0 : 0 ≤ F) (F9 : F ≤ 255) (g1 : (G % 3 == 1) = true) (f1 : 1 ≤ F % 3) (f2 : (F % 3 == 2) = false) (w : World) :
    Calls Ybad.prog 6 #[.agg #[.int .u8 G, .int .u16 H, .int .u16 M, .int .u16 S, .int .u8 F]] w fun e w' => ∃ l v, e = .returned (.tuple #[.string (strB l), .int .i64 v]) ∧ Off l v ∧ l.length ≤ 20 ∧ Below w.heap.size w w' := by
  obtain ⟨h, hh, hh2⟩ := nat_mod H 168 (by decide)
  obtain ⟨m, hm, hm2⟩ := nat_mod M 60 (by decide)
  obtain ⟨s, hs, hs2⟩ := nat_mod S 60 (by decide)
  
  go_enter Ybad.func6, Ybad.ntmps6
  go_wp2_with fail
  refine (itoa_ok h (by omega) _).mono ?_
  rintro e w1 ⟨L, rfl, hL, hb1⟩
  have hsL := Num.size hL
  have hc1 : w1.cell? ⟨w.heap.size, 4, none⟩ = some (.int .u8 F) := by rw [hb1.cell (p := ⟨w.heap.size, 4, none⟩) (by simp), World.cell?_alloc_at _ _ _ _ rfl]; rfl
  have hz1 : w.heap.size < w1.heap.size := by have := hb1.size; simp at this; omega
  have HB1 : Hid (Below w.heap.size w w1) := Below.trans ((Below.refl w.heap.size w).alloc (Nat.le_refl _) _) (hb1.mono (by simp))
  clear hb1
  go_wp2_with fail
  refine (itoa_ok m (by omega) _).mono ?_
  rintro e w2 ⟨K, rfl, hK, hb2⟩
  have hsK := Num.size hK
  have hc2 : w2.cell? ⟨w.heap.size, 4, none⟩ = some (.int .u8 F) := by rw [hb2.cell (p := ⟨w.heap.size, 4, none⟩) hz1, hc1]
  have hz2 : w.heap.size < w2.heap.size := by have := hb2.size; omega
  have HB2 : Hid (Below w.heap.size w w2) := Below.trans HB1.out (hb2.mono (by omega))
  clear hb2
  go_wp2
  go_ret2
  have q1 := hL.len 
  have q2 := hK.len
  exact ⟨[43] ++ (L ++ (58 :: K)), (h : Int) * 3600 + (m : Int) * 60, ret_si (by simp only [lit0, lit1, strB_append]; simp) (by omega), ⟨[43], L, h, (58 :: K), (h : Int) * 3600 + (m : Int) * 60, rfl, hL, by omega, .inr (.inl ⟨K, m, rfl, hK, by omega, rfl⟩), .inr (.inl ⟨rfl, rfl⟩)⟩, by simp; omega, HB2.out⟩

set_option maxRecDepth 100000 in
set_option maxHeartbeats 400000 in
theorem off_p2 (G H M S F : Int) (G0 : 0 ≤ G) (G9 : G ≤ 255) (H0 : 0 ≤ H) (H9 : H ≤ 65535) (M0 : 0 ≤ M) (M9 : M ≤ 65535) (S0 : 0 ≤ S) (S9 : S ≤ 65535) (F0 : 0 ≤ F) (F9 : F ≤ 255) (g1 : (G % 3 == 1) = true) (f1 : 1 ≤ F % 3) (f2 : (F % 3 == 2) = true) (w : World) :
    Calls Ybad.prog 6 #[.agg #[.int .u8 G, .int .u16 H, .int .u16 M, .int .u16 S, .int .u8 F]] w fun e w' => ∃ l v, e = .returned (.tuple #[.string (strB l), .int .i64 v]) ∧ Off l v ∧ l.length ≤ 20 ∧ Below w.heap.size w w' := by
  obtain ⟨h, hh, hh2⟩ := nat_mod H 168 (by decide)
  obtain ⟨m, hm, hm2⟩ := nat_mod M 60 (by decide)
  obtain ⟨s, hs, hs2⟩ := nat_mod S 60 (by decide)
  
  go_enter Ybad.func6, Ybad.ntmps6
  go_wp2_with fail
  refine (itoa_ok h (by omega) _).mono ?_
  rintro e w1 ⟨L, rfl, hL, hb1⟩
  have hsL := Num.size hL
  have hc1 : w1.cell? ⟨w.heap.size, 4, none⟩ = some (.int .u8 F) := by rw [hb1.cell (p := ⟨w.heap.size, 4, none⟩) (by simp), World.cell?_alloc_at _ _ _ _ rfl]; rfl
  have hz1 : w.heap.size < w1.heap.size := by have := hb1.size; simp at this; omega
  have HB1 : Hid (Below w.heap.size w w1) := Below.trans ((Below.refl w.heap.size w).alloc (Nat.le_refl _) _) (hb1.mono (by simp))
  clear hb1
  go_wp2_with fail
  refine (itoa_ok m (by omega) _).mono ?_
  rintro e w2 ⟨K, rfl, hK, hb2⟩
  have hsK := Num.size hK
  have hc2 : w2.cell? ⟨w.heap.size, 4, none⟩ = some (.int .u8 F) := by rw [hb2.cell (p := ⟨w.heap.size, 4, none⟩) hz1, hc1]
  have hz2 : w.heap.size < w2.heap.size := by have := hb2.size; omega
  have HB2 : Hid (Below w.heap.size w w2) := Below.trans HB1.out (hb2.mono (by omega))
  clear hb2
  go_wp2_with fail
  refine (itoa_ok s (by omega) _).mono ?_
  rintro e w3 ⟨J, rfl, hJ, hb3⟩
  have hsJ := Num.size hJ
  have hc3 : w3.cell? ⟨w.heap.size, 4, none⟩ = some (.int .u8 F) := by rw [hb3.cell (p := ⟨w.heap.size, 4, none⟩) hz2, hc2]
  have hz3 : w.heap.size < w3.heap.size := by have := hb3.size; omega
  have HB3 : Hid (Below w.heap.size w w3) := Below.trans HB2.out (hb3.mono (by omega))
  clear hb3
  go_wp2
  go_ret2
  have q1 := hL.len 
  have q2 := hK.len 
  have q3 := hJ.len
  exact ⟨[43] ++ (L ++ (58 :: (K ++ 58 :: J))), (h : Int) * 3600 + (m : Int) * 60 + (s : Int), ret_si (by simp only [lit0, lit1, strB_append]; simp) (by omega), ⟨[43], L, h, (58 :: (K ++ 58 :: J)), (h : Int) * 3600 + (m : Int) * 60 + (s : Int), rfl, hL, by omega, .inr (.inr ⟨K, m, J, s, rfl, hK, by omega, hJ, by omega, rfl⟩), .inr (.inl ⟨rfl, rfl⟩)⟩, by simp; omega, HB3.out⟩

set_option maxRecDepth 100000 in
set_option maxHeartbeats 400000 in
theorem off_m0 (G H M S F : Int) (G0 : 0 ≤ G) (G9 : G ≤ 255) (H0 : 0 ≤ H) (H9 : H ≤ 65535) (M0 : 0 ≤ M) (M9 : M ≤ 65535) (S0 : 0 ≤ S) (S9 : S ≤ 65535) (F0 : 0 ≤ F) (F9 : F ≤ 255) (g1 : (G % 3 == 1) = false) (g2 : (G % 3 == 2) = true) (f1 : ¬ 1 ≤ F % 3) (f2 : (F % 3 == 2) = false) (w : World) :
    Calls Ybad.prog 6 #[.agg #[.int .u8 G, .int .u16 H, .int .u16 M, .int .u16 S, .int .u8 F]] w fun e w' => ∃ l v, e = .returned (.tuple #[.string (strB l), .int .i64 v]) ∧ Off l v ∧ l.length ≤ 20 ∧ Below w.heap.size w w' := by
  obtain ⟨h, hh, hh2⟩ := nat_mod H 168 (by decide)
  obtain ⟨m, hm, hm2⟩ := nat_mod M 60 (by decide)
  obtain ⟨s, hs, hs2⟩ := nat_mod S 60 (by decide)
  
  go_enter Ybad.func6, Ybad.ntmps6
  go_wp2_with fail
  refine (itoa_ok h (by omega) _).mono ?_
  rintro e w1 ⟨L, rfl, hL, hb1⟩
  have hsL := Num.size hL
  have hc1 : w1.cell? ⟨w.heap.size, 4, none⟩ = some (.int .u8 F) := by rw [hb1.cell (p := ⟨w.heap.size, 4, none⟩) (by simp), World.cell?_alloc_at _ _ _ _ rfl]; rfl
  have hz1 : w.heap.size < w1.heap.size := by have := hb1.size; simp at this; omega
  have HB1 : Hid (Below w.heap.size w w1) := Below.trans ((Below.refl w.heap.size w).alloc (Nat.le_refl _) _) (hb1.mono (by simp))
  clear hb1
  go_wp2
  go_ret2
  have q1 := hL.len
  exact ⟨[45] ++ (L ++ []), -((h : Int) * 3600), ret_si (by simp only [lit0, lit1, strB_append]; simp) (by omega), ⟨[45], L, h, [], (h : Int) * 3600, rfl, hL, by omega, .inl ⟨rfl, rfl⟩, .inr (.inr ⟨rfl, rfl⟩)⟩, by simp; omega, HB1.out⟩

set_option maxRecDepth 100000 in
set_option maxHeartbeats 400000 in
theorem off_m1 (G H M S F : Int) (G0 : 0 ≤ G) (G9 : G ≤ 255) (H0 : 0 ≤ H) (H9 : H ≤ 65535) (M0 : 0 ≤ M) (M9 : M ≤ 65535) (S0 : 0 ≤ S) (S9 : S ≤ 65535) (F0 : 0 ≤ F) (F9 : F ≤ 255) (g1 : (G % 3 == 1) = false) (g2 : (G % 3 == 2) = true) (f1 : 1 ≤ F % 3) (f2 : (F % 3 == 2) = false) (w : World) :
    Calls Ybad.prog 6 #[.agg #[.int .u8 G, .int .u16 H, .int .u16 M, .int .u16 S, .int .u8 F]] w fun e w' => ∃ l v, e = .returned (.tuple #[.string (strB l), .int .i64 v]) ∧ Off l v ∧ l.length ≤ 20 ∧ Below w.heap.size w w' := by
  obtain ⟨h, hh, hh2⟩ := nat_mod H 168 (by decide)
  obtain ⟨m, hm, hm2⟩ := nat_mod M 60 (by decide)
  obtain ⟨s, hs, hs2⟩ := nat_mod S 60 (by decide)
  
  go_enter Ybad.func6, Ybad.ntmps6
  go_wp2_with fail
  refine (itoa_ok h (by omega) _).mono ?_
  rintro e w1 ⟨L, rfl, hL, hb1⟩
  have hsL := Num.size hL
  have hc1 : w1.cell? ⟨w.heap.size, 4, none⟩ = some (.int .u8 F) := by rw [hb1.cell (p := ⟨w.heap.size, 4, none⟩) (by simp), World.cell?_alloc_at _ _ _ _ rfl]; rfl
  have hz1 : w.heap.size < w1.heap.size := by have := hb1.size; simp at this; omega
  have HB1 : Hid (Below w.heap.size w w1) := Below.trans ((Below.refl w.heap.size w).alloc (Nat.le_refl _) _) (hb1.mono (by simp))
  clear hb1
  go_wp2_with fail
  refine (itoa_ok m (by omega) _).mono ?_
  rintro e w2 ⟨K, rfl, hK, hb2⟩
  have hsK := Num.size hK
  have hc2 : w2.cell? ⟨w.heap.size, 4, none⟩ = some (.int .u8 F) := by rw [hb2.cell (p := ⟨w.heap.size, 4, none⟩) hz1, hc1]
  have hz2 : w.heap.size < w2.heap.size := by have := hb2.size; omega
  have HB2 : Hid (Below w.heap.size w w2) := Below.trans HB1.out (hb2.mono (by omega))
  clear hb2
  go_wp2
  go_ret2
  have q1 := hL.len 
  have q2 := hK.len
  exact ⟨[45] ++ (L ++ (58 :: K)), -((h : Int) * 3600 + (m : Int) * 60), ret_si (by simp only [lit0, lit1, strB_append]; simp) (by omega), ⟨[45], L, h, (58 :: K), (h : Int) * 3600 + (m : Int) * 60, rfl, hL, by omega, .inr (.inl ⟨K, m, rfl, hK, by omega, rfl⟩), .inr (.inr ⟨rfl, rfl⟩)⟩, by simp; omega, HB2.out⟩

set_option maxRecDepth 100000 in
set_option maxHeartbeats 400000 in
theorem off_m2 (G H M S F : Int) (G0 : 0 ≤ G) (G9 : G ≤ 255) (H0 : 0 ≤ H) (H9 : H ≤ 65535) (M0 : 0 ≤ M) (M9 : M ≤ 65535) (S0 : 0 ≤ S) (S9 : S ≤ 65535) (F0 : 0 ≤ F) (F9 : F ≤ 255) (g1 : (G % 3 == 1) = false) (g2 : (G % 3 == 2) = true) (f1 : 1 ≤ F % 3) (f2 : (F % 3 == 2) = true) (w : World) :
    Calls Ybad.prog 6 #[.agg #[.int .u8 G, .int .u16 H, .int .u16 M, .int .u16 S, .int .u8 F]] w fun e w' => ∃ l v, e = .returned (.tuple #[.string (strB l), .int .i64 v]) ∧ Off l v ∧ l.length ≤ 20 ∧ Below w.heap.size w w' := by
  obtain ⟨h, hh, hh2⟩ := nat_mod H 168 (by decide)
  obtain ⟨m, hm, hm2⟩ := nat_mod M 60 (by decide)
  obtain ⟨s, hs, hs2⟩ := nat_mod S 60 (by decide)
  
  go_enter Ybad.func6, Ybad.ntmps6
  go_wp2_with fail
  refine (itoa_ok h (by omega) _).mono ?_
  rintro e w1 ⟨L, rfl, hL, hb1⟩
  have hsL := Num.size hL
  have hc1 : w1.cell? ⟨w.heap.size, 4, none⟩ = some (.int .u8 F) := by rw [hb1.cell (p := ⟨w.heap.size, 4, none⟩) (by simp), World.cell?_alloc_at _ _ _ _ rfl]; rfl
  have hz1 : w.heap.size < w1.heap.size := by have := hb1.size; simp at this; omega
  have HB1 : Hid (Below w.heap.size w w1) := Below.trans ((Below.refl w.heap.size w).alloc (Nat.le_refl _) _) (hb1.mono (by simp))
  clear hb1
  go_wp2_with fail
  refine (itoa_ok m (by omega) _).mono ?_
  rintro e w2 ⟨K, rfl, hK, hb2⟩
  have hsK := Num.size hK
  have hc2 : w2.cell? ⟨w.heap.size, 4, none⟩ = some (.int .u8 F) := by rw [hb2.cell (p := ⟨w.heap.size, 4, none⟩) hz1, hc1]
  have hz2 : w.heap.size < w2.heap.size := by have := hb2.size; omega
  have HB2 : Hid (Below w.heap.size w w2) := Below.trans HB1.out (hb2.mono (by omega))
  clear hb2
  go_wp2_with fail
  refine (itoa_ok s (by omega) _).mono ?_
  rintro e w3 ⟨J, rfl, hJ, hb3⟩
  have hsJ := Num.size hJ
  have hc3 : w3.cell? ⟨w.heap.size, 4, none⟩ = some (.int .u8 F) := by rw [hb3.cell (p := ⟨w.heap.size, 4, none⟩) hz2, hc2]
  have hz3 : w.heap.size < w3.heap.size := by have := hb3.size; omega
  have HB3 : Hid (Below w.heap.size w w3) := Below.trans HB2.out (hb3.mono (by omega))
  clear hb3
  go_wp2
  go_ret2
  have q1 := hL.len 
  have q2 := hK.len 
  have q3 := hJ.len
  exact ⟨[45] ++ (L ++ (58 :: (K ++ 58 :: J))), -((h : Int) * 3600 + (m : Int) * 60 + (s : Int)), ret_si (by simp only [lit0, lit1, strB_append]; simp) (by omega), ⟨[45], L, h, (58 :: (K ++ 58 :: J)), (h : Int) * 3600 + (m : Int) * 60 + (s : Int), rfl, hL, by omega, .inr (.inr ⟨K, m, J, s, rfl, hK, by omega, hJ, by omega, rfl⟩), .inr (.inr ⟨rfl, rfl⟩)⟩, by simp; omega, HB3.out⟩

/-- 'zzs2745aoff'. -/
theorem off_ok (G H M S F : Int) (G0 : 0 ≤ G) (G9 : G ≤ 255) (H0 : 0 ≤ H) (H9 : H ≤ 65535) (M0 : 0 ≤ M) (M9 : M ≤ 65535) (S0 : 0 ≤ S) (S9 : S ≤ 65535) (F0 : 0 ≤ F) (F9 : F ≤ 255) (w : World) :
    Calls Ybad.prog 6 #[.agg #[.int .u8 G, .int .u16 H, .int .u16 M, .int .u16 S, .int .u8 F]] w fun e w' => ∃ l v, e = .returned (.tuple #[.string (strB l), .int .i64 v]) ∧ Off l v ∧ l.length ≤ 20 ∧ Below w.heap.size w w' := by
  have hG : G % 3 = 0 ∨ G % 3 = 1 ∨ G % 3 = 2 := by omega
  have hF : F % 3 = 0 ∨ F % 3 = 1 ∨ F % 3 = 2 := by omega
  rcases hG with g | g | g
  · rcases hF with f | f | f
    · exact off_n0 G H M S F G0 G9 H0 H9 M0 M9 S0 S9 F0 F9 (by rw [g]; rfl) (by rw [g]; rfl) (by omega) (by rw [f]; rfl) w
    · exact off_n1 G H M S F G0 G9 H0 H9 M0 M9 S0 S9 F0 F9 (by rw [g]; rfl) (by rw [g]; rfl) (by omega) (by rw [f]; rfl) w
    · exact off_n2 G H M S F G0 G9 H0 H9 M0 M9 S0 S9 F0 F9 (by rw [g]; rfl) (by rw [g]; rfl) (by omega) (by rw [f]; rfl) w
  · rcases hF with f | f | f
    · exact off_p0 G H M S F G0 G9 H0 H9 M0 M9 S0 S9 F0 F9 (by rw [g]; rfl) (by omega) (by rw [f]; rfl) w
    · exact off_p1 G H M S F G0 G9 H0 H9 M0 M9 S0 S9 F0 F9 (by rw [g]; rfl) (by omega) (by rw [f]; rfl) w
    · exact off_p2 G H M S F G0 G9 H0 H9 M0 M9 S0 S9 F0 F9 (by rw [g]; rfl) (by omega) (by rw [f]; rfl) w
  · rcases hF with f | f | f
    · exact off_m0 G H M S F G0 G9 H0 H9 M0 M9 S0 S9 F0 F9 (by rw [g]; rfl) (by rw [g]; rfl) (by omega) (by rw [f]; rfl) w
    · exact off_m1 G H M S F G0 G9 H0 H9 M0 M9 S0 S9 F0 F9 (by rw [g]; rfl) (by rw [g]; rfl) (by omega) (by rw [f]; rfl) w
    · exact off_m2 G H M S F G0 G9 H0 H9 M0 M9 S0 S9 F0 F9 (by rw [g]; rfl) (by rw [g]; rfl) (by omega) (by rw [f]; rfl) w
end Go.Proofs.YbulkbdvcDoor.W
