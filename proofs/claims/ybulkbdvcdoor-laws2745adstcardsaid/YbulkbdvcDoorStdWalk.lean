import Derived.Test.YbulkbdvcDoorRule
import Derived.Test.YbulkbdvcDoorGen
import Derived.Test.YbulkbdvcDoorOffGen
import Derived.Test.YbulkbdvcDoorEq
namespace Go.Proofs.YbulkbdvcDoor.W
open Go.RowKit
open Go.Proofs.YbulkbdvcDoor.P Go.Proofs.YbulkbdvcDoor.B

/-- 'zzs2745aname'. -/
theorem gen_ok (a : Option Addr) (len cap : Nat) (angle : Bool) (hlen : len ≤ 1024) (w : World) (hrow : Row8 w a len) :
    Calls Ybad.prog 5 #[.slice a len cap, .bool angle] w fun e w' => ∃ txt ab, e = .returned (.tuple #[.string (strB txt), .string (strB ab)]) ∧ Name txt ab ∧ txt.length ≤ 1026 ∧ ab.length ≤ 1024 ∧ Below w.heap.size w w' := by
  cases angle with
  | true =>
    refine (gen_angle a len cap hlen w hrow).mono ?_
    rintro e w' ⟨l, rfl, h1, h2, hb⟩
    exact ⟨_, l, rfl, .inl ⟨rfl, h1⟩, by simp; omega, h2, hb⟩
  | false =>
    refine (gen_plain a len cap hlen w hrow).mono ?_
    rintro e w' ⟨l, rfl, h1, h2, h3, hb⟩
    exact ⟨l, l, rfl, .inr ⟨rfl, h2, h1⟩, by omega, h3, hb⟩

theorem info25 : (Ybad.prog.info? 25).map (fun i => i.size) = some 5 := by kernel_rfl

theorem Row8.alloc {w : World} {a : Option Addr} {len : Nat} (h : Row8 w a len) (o : Obj) : Row8 (w.alloc o) a len := by
  rcases h with h | ⟨b, o', rfl, hb, hc⟩
  · exact .inl h
  · refine .inr ⟨b, o', rfl, by simp; omega, fun i hi => ?_⟩
    obtain ⟨z, h1, h2, h3⟩ := hc i hi
    exact ⟨z, h1, h2, by rw [World.cell?_alloc_past _ _ _ hb, h3]⟩

theorem rule_std' (s : ByteArray) (txt ab O rest : List UInt8) (v : Int) (hs : s = strB (txt ++ (O ++ rest))) (hn : Name txt ab) (hO : Off O v) (hsm : (txt ++ (O ++ rest)).length ≤ 1000000) (hrest : rest = [] ∨ ∃ tl, rest = 44 :: tl) (w : World) :
    Calls Ybad.prog 7 #[.string s] w fun e w' => e = .returned (.tuple #[.agg (stdRule ab v), .bool true]) ∧ Below w.heap.size w w' := by
  subst hs
  exact rule_std txt ab O rest v hn hO hsm hrest w

theorem strB_self (s : ByteArray) : strB s.data.toList = s := by
  apply ByteArray.ext
  simp [strB]

theorem bsize {l : List UInt8} {n : Nat} (h : l.length ≤ n) : (strB l).size ≤ n := by rw [strB_size]; exact h

set_option maxRecDepth 100000 in
set_option maxHeartbeats 1000000 in
theorem std_small (a : Option Addr) (len cap : Nat) (angle : Bool) (G H M S F : Int) (tail : ByteArray) (G0 : 0 ≤ G) (G9 : G ≤ 255) (H0 : 0 ≤ H) (H9 : H ≤ 65535) (M0 : 0 ≤ M) (M9 : M ≤ 65535) (S0 : 0 ≤ S) (S9 : S ≤ 65535) (F0 : 0 ≤ F) (F9 : F ≤ 255)
    (hlen : len ≤ 1024) (htl : tail.size ≤ 65536) (w : World) (hrow : Row8 w a len) :
    Calls Ybad.prog 3 #[.slice a len cap, .bool angle, .agg #[.int .u8 G, .int .u16 H, .int .u16 M, .int .u16 S, .int .u8 F], .bool true, .string tail] w fun e w' => e = .returned (.bool true) ∧ Below w.heap.size w w' := by
  have heq := eq36
  go_enter Ybad.func3, Ybad.ntmps3
  go_wp2_with fail
  refine (gen_ok a len cap angle hlen _ (hrow.alloc _)).mono ?_
  rintro e w1 ⟨txt, ab, rfl, hnm, ht1, ht2, hb1⟩
  have hh1 : w1.heap[w.heap.size]? = some (.cells #[.int .u8 G, .int .u16 H, .int .u16 M, .int .u16 S, .int .u8 F] 25 (0, 0)) := by
    rw [hb1.block _ (by simp), heap_top _ _ _ rfl]
  have HH := hide hh1
  have hs1 := hb1.size
  have HB1 := hide hb1
  clear hh1 hb1
  go_wp2_with (refine wpList_load_row rfl 25 _ rfl _ rfl 25 _ (0, 0) _ HH.out Ybad.underlying25 rfl info25 ?_)
  refine (off_ok G H M S F G0 G9 H0 H9 M0 M9 S0 S9 F0 F9 _).mono ?_
  rintro e w2 ⟨O, v, rfl, hO, hO2, hb2⟩
  have HB2 : Hid (Below w.heap.size w w2) := Below.trans (Below.trans ((Below.refl w.heap.size w).alloc (Nat.le_refl _) _) (HB1.out.mono (by simp))) (hb2.mono (by simp at hs1; omega))
  have hs2 : w.heap.size ≤ w2.heap.size := HB2.out.size
  obtain ⟨hv1, hv2⟩ := off_bound hO
  have hz1 := bsize ht1
  have hz2 := bsize hO2
  clear hb2 HB1 HH hs1
  go_wp2_with fail
  refine (rule_std' _ txt ab O (44 :: tail.data.toList) v ?e1 hnm hO ?e2 (.inr ⟨_, rfl⟩) _).mono ?_
  case e1 =>
    rw [lit1]
    conv => lhs; rw [← strB_self tail]
    simp only [strB_append]
    simp
  case e2 =>
    have : tail.data.toList.length = tail.size := Array.length_toList
    simp; simp at this; omega
  rintro e w3 ⟨rfl, hb3⟩
  have HB3 : Hid (Below w.heap.size w w3) := Below.trans HB2.out (hb3.mono hs2)
  have hs3 : w.heap.size ≤ w3.heap.size := HB3.out.size
  clear hb3
  unfold stdRule
  go_wp2_with (first | (refine load_row_g rfl 36 (.tmp 18) rfl _ rfl 36 _ (0, 0) _ (heap_top _ _ _ (by simp)) Ybad.underlying36 rfl info36 ?_) | (refine load_row_g rfl 36 (.tmp 16) rfl _ rfl 36 _ (0, 0) _ ((heap_past _ _ _ (by simp)).trans (heap_top _ _ _ (by simp))) Ybad.underlying36 rfl info36 ?_) | (refine wpList_store_row rfl 36 _ _ rfl _ _ rfl rfl 36 _ (heap_top _ _ _ (by simp)) info36 rfl (all_one rfl) ?_; rw [setRow_top _ _ _ _ _ (by simp)]))
  go_ret
  exact ⟨rfl, (HB3.out.alloc hs3 _).alloc (by simp; omega) _⟩

set_option maxRecDepth 100000 in
set_option maxHeartbeats 1000000 in
theorem std_bare (a : Option Addr) (len cap : Nat) (angle : Bool) (G H M S F : Int) (tail : ByteArray) (G0 : 0 ≤ G) (G9 : G ≤ 255) (H0 : 0 ≤ H) (H9 : H ≤ 65535) (M0 : 0 ≤ M) (M9 : M ≤ 65535) (S0 : 0 ≤ S) (S9 : S ≤ 65535) (F0 : 0 ≤ F) (F9 : F ≤ 255)
    (hlen : len ≤ 1024) (htl : tail.size ≤ 65536) (w : World) (hrow : Row8 w a len) :
    Calls Ybad.prog 3 #[.slice a len cap, .bool angle, .agg #[.int .u8 G, .int .u16 H, .int .u16 M, .int .u16 S, .int .u8 F], .bool false, .string tail] w fun e w' => e = .returned (.bool true) ∧ Below w.heap.size w w' := by
  have heq := eq36
  go_enter Ybad.func3, Ybad.ntmps3
  go_wp2_with fail
  refine (gen_ok a len cap angle hlen _ (hrow.alloc _)).mono ?_
  rintro e w1 ⟨txt, ab, rfl, hnm, ht1, ht2, hb1⟩
  have hh1 : w1.heap[w.heap.size]? = some (.cells #[.int .u8 G, .int .u16 H, .int .u16 M, .int .u16 S, .int .u8 F] 25 (0, 0)) := by
    rw [hb1.block _ (by simp), heap_top _ _ _ rfl]
  have HH := hide hh1
  have hs1 := hb1.size
  have HB1 := hide hb1
  clear hh1 hb1
  go_wp2_with (refine wpList_load_row rfl 25 _ rfl _ rfl 25 _ (0, 0) _ HH.out Ybad.underlying25 rfl info25 ?_)
  refine (off_ok G H M S F G0 G9 H0 H9 M0 M9 S0 S9 F0 F9 _).mono ?_
  rintro e w2 ⟨O, v, rfl, hO, hO2, hb2⟩
  have HB2 : Hid (Below w.heap.size w w2) := Below.trans (Below.trans ((Below.refl w.heap.size w).alloc (Nat.le_refl _) _) (HB1.out.mono (by simp))) (hb2.mono (by simp at hs1; omega))
  have hs2 : w.heap.size ≤ w2.heap.size := HB2.out.size
  obtain ⟨hv1, hv2⟩ := off_bound hO
  have hz1 := bsize ht1
  have hz2 := bsize hO2
  clear hb2 HB1 HH hs1
  go_wp2_with fail
  refine (rule_std' _ txt ab O [] v ?e1 hnm hO ?e2 (.inl rfl) _).mono ?_
  case e1 =>
    rw [strB_append]
    simp
  case e2 => simp; omega
  rintro e w3 ⟨rfl, hb3⟩
  have HB3 : Hid (Below w.heap.size w w3) := Below.trans HB2.out (hb3.mono hs2)
  have hs3 : w.heap.size ≤ w3.heap.size := HB3.out.size
  clear hb3
  unfold stdRule
  go_wp2_with (first | (refine load_row_g rfl 36 (.tmp 18) rfl _ rfl 36 _ (0, 0) _ (heap_top _ _ _ (by simp)) Ybad.underlying36 rfl info36 ?_) | (refine load_row_g rfl 36 (.tmp 16) rfl _ rfl 36 _ (0, 0) _ ((heap_past _ _ _ (by simp)).trans (heap_top _ _ _ (by simp))) Ybad.underlying36 rfl info36 ?_) | (refine wpList_store_row rfl 36 _ _ rfl _ _ rfl rfl 36 _ (heap_top _ _ _ (by simp)) info36 rfl (all_one rfl) ?_; rw [setRow_top _ _ _ _ _ (by simp)]))
  go_ret
  exact ⟨rfl, (HB3.out.alloc hs3 _).alloc (by simp; omega) _⟩

set_option maxRecDepth 100000 in
theorem std_walk (a : Option Addr) (len cap : Nat) (angle : Bool) (G H M S F : Int) (trail : Bool) (tail : ByteArray) (G0 : 0 ≤ G) (G9 : G ≤ 255) (H0 : 0 ≤ H) (H9 : H ≤ 65535) (M0 : 0 ≤ M) (M9 : M ≤ 65535) (S0 : 0 ≤ S) (S9 : S ≤ 65535) (F0 : 0 ≤ F) (F9 : F ≤ 255)
    (hlm : len ≤ maxLen) (htm : tail.size ≤ maxLen) (w : World) (hrow : Row8 w a len) :
    Calls Ybad.prog 3 #[.slice a len cap, .bool angle, .agg #[.int .u8 G, .int .u16 H, .int .u16 M, .int .u16 S, .int .u8 F], .bool trail, .string tail] w fun e w' => e = .returned (.bool true) ∧ Below w.heap.size w w' := by
  unfold maxLen at hlm htm
  by_cases hlen : len ≤ 1024
  · by_cases htl : tail.size ≤ 65536
    · cases trail with
      | true => exact std_small a len cap angle G H M S F tail G0 G9 H0 H9 M0 M9 S0 S9 F0 F9 hlen htl w hrow
      | false => exact std_bare a len cap angle G H M S F tail G0 G9 H0 H9 M0 M9 S0 S9 F0 F9 hlen htl w hrow
    · have h1 : ¬ (1024 : Int) < (len : Int) := by omega
      have h2 : (65536 : Int) < (tail.size : Int) := by omega
      go_enter Ybad.func3, Ybad.ntmps3
      go_wp2
      go_ret
      exact ⟨rfl, (Below.refl _ _).alloc (Nat.le_refl _) _⟩
  · have h1 : (1024 : Int) < (len : Int) := by omega
    go_enter Ybad.func3, Ybad.ntmps3
    go_wp2
    go_ret
    exact ⟨rfl, (Below.refl _ _).alloc (Nat.le_refl _) _⟩
end Go.Proofs.YbulkbdvcDoor.W
