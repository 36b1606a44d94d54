import Derived.Test.YbulkbdvcDoorDateGen
import Derived.Test.YbulkbdvcDoorDstE
import Derived.Test.YbulkbdvcDoorDstD
import Derived.Test.YbulkbdvcDoorDstC
import Derived.Test.YbulkbdvcDoorStdWalk
import Derived.Test.YbulkbdvcDoorOpen
namespace Go.Proofs.YbulkbdvcDoor.W
open Go.RowKit
open Go.Proofs.YbulkbdvcDoor.P Go.Proofs.YbulkbdvcDoor.B

theorem info41 : (Ybad.prog.info? 41).map (fun i => i.size) = some 10 := by kernel_rfl

/-- Block g holds just these cells, none of them frozen. -/
def Blk (w : World) (g : Nat) (cs : Array Value) (t : TypeId) : Prop := w.heap[g]? = some (.cells cs t (0, 0))

theorem Blk.lt {w : World} {g : Nat} {cs : Array Value} {t : TypeId} (h : Blk w g cs t) : g < w.heap.size := (Array.getElem?_eq_some_iff.1 h).1
theorem Blk.below {w w' : World} {g : Nat} {cs : Array Value} {t : TypeId} (h : Blk w g cs t) (hb : Below w.heap.size w w') : Blk w' g cs t := (hb.block g h.lt).trans h
theorem Blk.alloc {w : World} {g : Nat} {cs : Array Value} {t : TypeId} (h : Blk w g cs t) (o : Obj) : Blk (w.alloc o) g cs t := (heap_past _ _ _ h.lt).trans h
theorem Blk.new (w : World) (cs : Array Value) (t : TypeId) (n : Nat) (hn : n = w.heap.size) : Blk (w.alloc (.cells cs t)) n cs t := heap_top _ _ _ hn
theorem Blk.cell {w : World} {g : Nat} {cs : Array Value} {t : TypeId} (h : Blk w g cs t) (j : Nat) : w.cell? ⟨g, j, none⟩ = cs[j]? := cell_of_row w g j cs t _ h
theorem Blk.free {w : World} {g : Nat} {cs : Array Value} {t : TypeId} (h : Blk w g cs t) (j : Nat) : w.frozen? ⟨g, j, none⟩ = false := frozen_of_row w g j cs t h
theorem Blk.set {w : World} {g : Nat} {cs : Array Value} {t : TypeId} (h : Blk w g cs t) (j : Nat) (v : Value) : Blk (w.setCell ⟨g, j, none⟩ v) g (cs.setIfInBounds j v) t := heap_setCell_same w g j cs t v h
theorem Blk.other {w : World} {g : Nat} {cs : Array Value} {t : TypeId} (h : Blk w g cs t) {a : Addr} (ha : g ≠ a.block) (v : Value) : Blk (w.setCell a v) g cs t := (Below.heap_setCell _ _ _ _ ha).trans h

/-- What a store into block g leaves: every other block is as it was. -/
structure But (g : Nat) (w w' : World) : Prop where
  os : w'.os = w.os
  tape : w'.tape = w.tape
  output : w'.output = w.output
  size : w'.heap.size = w.heap.size
  block : ∀ k, k ≠ g → w'.heap[k]? = w.heap[k]?

theorem But.blk {w w' : World} {g k : Nat} {cs : Array Value} {t : TypeId} (h : But g w w') (hk : k ≠ g) (hb : Blk w k cs t) : Blk w' k cs t := (h.block k hk).trans hb
theorem But.below {w0 w w' : World} {g : Nat} (h : But g w w') (hb : Below w0.heap.size w0 w) (hg : w0.heap.size ≤ g) : Below w0.heap.size w0 w' :=
  hb.trans ⟨h.os, h.tape, h.output, by rw [h.size]; exact Nat.le_refl _, fun k hk => h.block k (by omega)⟩

theorem But.set (w : World) (g j : Nat) (v : Value) : But g w (w.setCell ⟨g, j, none⟩ v) := ⟨rfl, rfl, rfl, by simp, fun _ hk => Below.heap_setCell _ _ _ _ hk⟩
theorem But.trans {g : Nat} {a b c : World} (h : But g a b) (k : But g b c) : But g a c :=
  ⟨k.os.trans h.os, k.tape.trans h.tape, k.output.trans h.output, k.size.trans h.size, fun i hi => (k.block i hi).trans (h.block i hi)⟩

/-- Five cells (a date) stored into the block of a rule, from offset o on. -/
theorem store5 {ops : Array Oper} {rest : List Oper} {o : Oper} {a : Act} {w : World} {Q : Exit → Act → World → Prop} (hgd : o.guard = none) (x y : Operand) (ho : o.op = .store 34 x y)
    (g off : Nat) (v0 v1 v2 v3 v4 : Value) (hx : a.eval x = .pointer (some ⟨g, off, none⟩)) (hy : a.eval y = .agg #[v0, v1, v2, v3, v4]) (h1 : (#[v0, v1, v2, v3, v4] : Array Value).all (·.oneCell') = true)
    (cs cs' : Array Value) (hb : Blk w g cs 36) (hoff : off + 5 ≤ cs.size) (hcs : (((((cs.setIfInBounds off v0).setIfInBounds (off + 1) v1).setIfInBounds (off + 2) v2).setIfInBounds (off + 3) v3).setIfInBounds (off + 4) v4) = cs')
    (h : ∀ w2, Blk w2 g cs' 36 → But g w w2 → wpList Ybad.prog ops Q rest (a.put o.dst undef) w2) : wpList Ybad.prog ops Q (o :: rest) a w := by
  refine wpList_store_mid hgd 34 x y ho g off _ hx hy (fun j hj => ?_) info34 h1 ?_
  · refine ⟨?_, hb.free _⟩
    rw [hb.cell]
    simp at hj
    rw [Array.getElem?_eq_getElem (by omega)]
    rfl
  · simp only [World.setCells]
    refine h _ ?_ ?_
    · subst hcs
      exact ((((hb.set off v0).set (off + 1) v1).set (off + 2) v2).set (off + 3) v3).set (off + 4) v4
    · exact ((((But.set w g off v0).trans (But.set _ g (off + 1) v1)).trans (But.set _ g (off + 2) v2)).trans (But.set _ g (off + 3) v3)).trans (But.set _ g (off + 4) v4)

/-! ### the contracts as the law's walk takes them -/
open Go.Proofs.YbulkbdvcDoor.O (OffBounds)

/-- The value of an offset's description. -/
def offV (G h M S F : Int) : Array Value := #[.int .u8 G, .int .u16 h, .int .u16 M, .int .u16 S, .int .u8 F]
/-- The value of a date's description. -/
def dateV (K A B C : Int) (ht : Bool) (G h M S F : Int) : Array Value := #[.int .u8 K, .int .u16 A, .int .u16 B, .int .u16 C, .bool ht, .int .u8 G, .int .u16 h, .int .u16 M, .int .u16 S, .int .u8 F]

structure DateBounds (K A B C : Int) (G h M S F : Int) : Prop where
  k0 : 0 ≤ K
  k9 : K ≤ 255
  a0 : 0 ≤ A
  a9 : A ≤ 65535
  b0 : 0 ≤ B
  b9 : B ≤ 65535
  c0 : 0 ≤ C
  c9 : C ≤ 65535
  off : OffBounds G h M S F

theorem off_v {G h M S F : Int} (b : OffBounds G h M S F) (w : World) :
    Calls Ybad.prog 6 #[.agg (offV G h M S F)] w fun e w' => ∃ l v, e = .returned (.tuple #[.string (strB l), .int .i64 v]) ∧ Off l v ∧ l.length ≤ 20 ∧ Below w.heap.size w w' :=
  off_ok G h M S F b.g0 b.g9 b.h0 b.h9 b.m0 b.m9 b.s0 b.s9 b.f0 b.f9 w

theorem dgen_v {K A B C : Int} {ht : Bool} {G h M S F : Int} (b : DateBounds K A B C G h M S F) (w : World) :
    Calls Ybad.prog 8 #[.agg (dateV K A B C ht G h M S F)] w fun e w' => ∃ l f d k m t, e = .returned (.tuple #[.string (strB l), .agg (dateCells f d k m t)]) ∧ DateT l f d k m t ∧ l.length ≤ 40 ∧ Below w.heap.size w w' :=
  dgen_ok K A B C ht G h M S F b.k0 b.k9 b.a0 b.a9 b.b0 b.b9 b.c0 b.c9 b.off.g0 b.off.g9 b.off.h0 b.off.h9 b.off.m0 b.off.m9 b.off.s0 b.off.s9 b.off.f0 b.off.f9 w

theorem rule_a' (s : ByteArray) (txt ab O txt2 ab2 : List UInt8) (v : Int) (hs : s = strB (txt ++ (O ++ txt2))) (hn : Name txt ab) (hO : Off O v) (hn2 : Name txt2 ab2) (hsm : (txt ++ (O ++ txt2)).length ≤ 1000000) (w : World) (hdf : Defaults w) :
    Calls Ybad.prog 7 #[.string s] w fun e w' => e = .returned (.tuple #[.agg (dstRule ab v ab2 (-v + 3600) [77] 0 2 3 7200 [77] 0 1 11 7200), .bool true]) ∧ Below w.heap.size w w' := by
  have := rule_a txt ab O txt2 ab2 [] v hn hO hn2 rfl (by simpa using hsm) w hdf
  rw [List.append_nil] at this
  rw [hs]; exact this

theorem rule_b' (s : ByteArray) (txt ab O txt2 ab2 O2 : List UInt8) (v v2 : Int) (hs : s = strB (txt ++ (O ++ (txt2 ++ O2)))) (hn : Name txt ab) (hO : Off O v) (hn2 : Name txt2 ab2) (hO2 : Off O2 v2) (hsm : (txt ++ (O ++ (txt2 ++ O2))).length ≤ 1000000) (w : World) (hdf : Defaults w) :
    Calls Ybad.prog 7 #[.string s] w fun e w' => e = .returned (.tuple #[.agg (dstRule ab v ab2 (-v2) [77] 0 2 3 7200 [77] 0 1 11 7200), .bool true]) ∧ Below w.heap.size w w' := by
  have := rule_b txt ab O txt2 ab2 v hn hO hn2 O2 v2 hO2 [] rfl (by simpa using hsm) w hdf
  rw [List.append_nil] at this
  rw [hs]; exact this

theorem rule_c' (s : ByteArray) (txt ab O txt2 ab2 : List UInt8) (v : Int) (D1 F1 : List UInt8) (d1 k1 m1 t1 : Int) (D2 F2 : List UInt8) (d2 k2 m2 t2 : Int) (hs : s = strB (txt ++ (O ++ (txt2 ++ 44 :: (D1 ++ 44 :: D2))))) (hn : Name txt ab) (hO : Off O v) (hn2 : Name txt2 ab2)
    (hD1 : DateT D1 F1 d1 k1 m1 t1) (hD2 : DateT D2 F2 d2 k2 m2 t2) (hsm : (txt ++ (O ++ (txt2 ++ 44 :: (D1 ++ 44 :: D2)))).length ≤ 1000000) (w : World) (hdf : Defaults w) :
    Calls Ybad.prog 7 #[.string s] w fun e w' => e = .returned (.tuple #[.agg (dstRule ab v ab2 (-v + 3600) F1 d1 k1 m1 t1 F2 d2 k2 m2 t2), .bool true]) ∧ Below w.heap.size w w' := by
  have := rule_c txt ab O txt2 ab2 v hn hO hn2 D1 F1 d1 k1 m1 t1 hD1 D2 F2 d2 k2 m2 t2 hD2 [] rfl (by simpa using hsm) w hdf
  rw [List.append_nil] at this
  rw [hs]; exact this

theorem rule_d' (s : ByteArray) (txt ab O txt2 ab2 O2 : List UInt8) (v v2 : Int) (D1 F1 : List UInt8) (d1 k1 m1 t1 : Int) (D2 F2 : List UInt8) (d2 k2 m2 t2 : Int) (hs : s = strB (txt ++ (O ++ (txt2 ++ (O2 ++ 44 :: (D1 ++ 44 :: D2)))))) (hn : Name txt ab) (hO : Off O v) (hn2 : Name txt2 ab2)
    (hO2 : Off O2 v2) (hD1 : DateT D1 F1 d1 k1 m1 t1) (hD2 : DateT D2 F2 d2 k2 m2 t2) (hsm : (txt ++ (O ++ (txt2 ++ (O2 ++ 44 :: (D1 ++ 44 :: D2))))).length ≤ 1000000) (w : World) (hdf : Defaults w) :
    Calls Ybad.prog 7 #[.string s] w fun e w' => e = .returned (.tuple #[.agg (dstRule ab v ab2 (-v2) F1 d1 k1 m1 t1 F2 d2 k2 m2 t2), .bool true]) ∧ Below w.heap.size w w' := by
  have := rule_d txt ab O txt2 ab2 v hn hO hn2 O2 v2 hO2 D1 F1 d1 k1 m1 t1 hD1 D2 F2 d2 k2 m2 t2 hD2 [] rfl (by simpa using hsm) w hdf
  rw [List.append_nil] at this
  rw [hs]; exact this

theorem rule_e' (s : ByteArray) (txt ab O txt2 ab2 O2 : List UInt8) (v v2 : Int) (D1 F1 : List UInt8) (d1 k1 m1 t1 : Int) (D2 F2 : List UInt8) (d2 k2 m2 t2 : Int) (hs : s = strB (txt ++ (O ++ (txt2 ++ (O2 ++ 59 :: (D1 ++ 44 :: D2)))))) (hn : Name txt ab) (hO : Off O v) (hn2 : Name txt2 ab2)
    (hO2 : Off O2 v2) (hD1 : DateT D1 F1 d1 k1 m1 t1) (hD2 : DateT D2 F2 d2 k2 m2 t2) (hsm : (txt ++ (O ++ (txt2 ++ (O2 ++ 59 :: (D1 ++ 44 :: D2))))).length ≤ 1000000) (w : World) (hdf : Defaults w) :
    Calls Ybad.prog 7 #[.string s] w fun e w' => e = .returned (.tuple #[.agg (dstRule ab v ab2 (-v2) F1 d1 k1 m1 t1 F2 d2 k2 m2 t2), .bool true]) ∧ Below w.heap.size w w' := by
  have := rule_e txt ab O txt2 ab2 v hn hO hn2 O2 v2 hO2 D1 F1 d1 k1 m1 t1 hD1 D2 F2 d2 k2 m2 t2 hD2 [] rfl (by simpa using hsm) w hdf
  rw [List.append_nil] at this
  rw [hs]; exact this

theorem Defaults.below {w w' : World} (h : Defaults w) (hb : Below w.heap.size w w') : Defaults w' := by
  have hl := h.lt
  obtain ⟨t, fr, h0⟩ := h.start
  obtain ⟨t', fr', h1⟩ := h.stop
  exact ⟨⟨t, fr, (hb.block 0 (by omega)).trans h0⟩, ⟨t', fr', (hb.block 1 hl).trans h1⟩⟩

theorem Row8.below {w w' : World} {a : Option Addr} {len : Nat} (h : Row8 w a len) (hb : Below w.heap.size w w') : Row8 w' a len := by
  rcases h with h | ⟨b, o', rfl, hb', hc⟩
  · exact .inl h
  · refine .inr ⟨b, o', rfl, Nat.lt_of_lt_of_le hb' hb.size, fun i hi => ?_⟩
    obtain ⟨z, h1, h2, h3⟩ := hc i hi
    exact ⟨z, h1, h2, by rw [hb.cell (p := ⟨b, o' + i, none⟩) hb', h3]⟩

end Go.Proofs.YbulkbdvcDoor.W
