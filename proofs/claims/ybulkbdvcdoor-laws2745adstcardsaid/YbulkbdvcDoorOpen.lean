/-
  The arguments and the named variables of the two laws, opened, and read again behind the call.
-/
import Derived.Test.YbulkbdvcDoorRows
import Derived.Test.YbulkbdvcDoorGen
import Derived.WalkKit
import Derived.ProofKit
import Derived.OpenShut
import Derived.ShutString
import Derived.ChangeOld
import Derived.WalkSmall
namespace Go.Proofs.YbulkbdvcDoor.O
open Go.ChangeShapes Go.WideShapes Go.ChangeAt Go.RowKit
open Go.Proofs.YbulkbdvcDoor.W

theorem own : ownKnob Ybad.prog.godebug = none := by kernel_rfl
theorem laidOut : laidOutB Ybad.prog = true := by kernel_rfl
theorem c5 : Ybad.prog.cellsOf 5 = 1 := by kernel_rfl
theorem c4 : Ybad.prog.cellsOf 4 = 1 := by kernel_rfl
theorem c9 : Ybad.prog.cellsOf 9 = 1 := by kernel_rfl
theorem c32 : Ybad.prog.cellsOf 32 = 1 := by kernel_rfl
theorem c3 : Ybad.prog.cellsOf 3 = 1 := by kernel_rfl
theorem c23 : Ybad.prog.cellsOf 23 = 1 := by kernel_rfl
theorem c25 : Ybad.prog.cellsOf 25 = 5 := by kernel_rfl
theorem c34 : Ybad.prog.cellsOf 34 = 5 := by kernel_rfl
theorem c41 : Ybad.prog.cellsOf 41 = 10 := by kernel_rfl

section
variable {H : Type} {enc : TypeId × Value → H} {w : World} {base : Nat} {spare : Nat → Bool} {held : Bool}

/-- The five numbers of an offset's description, each within its kind. -/
structure OffBounds (G h M S F : Int) : Prop where
  g0 : 0 ≤ G
  g9 : G ≤ 255
  h0 : 0 ≤ h
  h9 : h ≤ 65535
  m0 : 0 ≤ M
  m9 : M ≤ 65535
  s0 : 0 ≤ S
  s9 : S ≤ 65535
  f0 : 0 ≤ F
  f9 : F ≤ 255

theorem off_cells {n : Nat} {cs : List Value} {y : DataW H × List MemPlace} (h : DataW.trod enc Ybad.prog w base spare held n 25 cs = some y) :
    ∃ G h M S F, cs = [.int .u8 G, .int .u16 h, .int .u16 M, .int .u16 S, .int .u8 F] ∧ OffBounds G h M S F := by
  obtain ⟨xs, m, _, _, hl, hlen, hf⟩ := DataW.trod_struct Ybad.underlying25 h
  rw [c25] at hl
  match cs, hl, xs, hlen with
  | [a0, a1, a2, a3, a4], _, [x0, x1, x2, x3, x4], _ =>
    have h0 : DataW.trod enc Ybad.prog w base spare held m 5 ([a0, a1, a2, a3, a4].take (Ybad.prog.cellsOf 5)) = some x0 := hf 0 _ rfl
    have h1 : DataW.trod enc Ybad.prog w base spare held m 23 ([a1, a2, a3, a4].take (Ybad.prog.cellsOf 23)) = some x1 := hf 1 _ rfl
    have h2 : DataW.trod enc Ybad.prog w base spare held m 23 ([a2, a3, a4].take (Ybad.prog.cellsOf 23)) = some x2 := hf 2 _ rfl
    have h3 : DataW.trod enc Ybad.prog w base spare held m 23 ([a3, a4].take (Ybad.prog.cellsOf 23)) = some x3 := hf 3 _ rfl
    have h4 : DataW.trod enc Ybad.prog w base spare held m 5 ([a4].take (Ybad.prog.cellsOf 5)) = some x4 := hf 4 _ rfl
    rw [c5] at h0 h4
    rw [c23] at h1 h2 h3
    obtain ⟨G, e0, _, w0⟩ := DataW.trod_int Ybad.underlying5 h0
    obtain ⟨hh, e1, _, w1⟩ := DataW.trod_int Ybad.underlying23 h1
    obtain ⟨M, e2, _, w2⟩ := DataW.trod_int Ybad.underlying23 h2
    obtain ⟨S, e3, _, w3⟩ := DataW.trod_int Ybad.underlying23 h3
    obtain ⟨F, e4, _, w4⟩ := DataW.trod_int Ybad.underlying5 h4
    simp at e0 e1 e2 e3 e4
    subst e0 e1 e2 e3 e4
    exact ⟨G, hh, M, S, F, rfl, (bounds_u8 w0).1, (bounds_u8 w0).2, (bounds_u16 w1).1, (bounds_u16 w1).2, (bounds_u16 w2).1, (bounds_u16 w2).2, (bounds_u16 w3).1, (bounds_u16 w3).2, (bounds_u8 w4).1, (bounds_u8 w4).2⟩

theorem open_off {r : Reach} {b0 : Nat} {v : Value} {d : DataW H} {p : List MemPlace} (hv : Value.okWide Ybad.prog w r b0 25 v) (h : DataW.Trod enc Ybad.prog w base spare held 25 v d p) :
    ∃ G h M S F, v = .agg #[.int .u8 G, .int .u16 h, .int .u16 M, .int .u16 S, .int .u8 F] ∧ OffBounds G h M S F := by
  obtain ⟨cs, rfl, _⟩ := okWide_struct Ybad.underlying25 hv
  obtain ⟨fuel, hf⟩ := h
  obtain ⟨G, h, M, S, F, e, hb⟩ := off_cells hf
  refine ⟨G, h, M, S, F, ?_, hb⟩
  obtain ⟨l⟩ := cs
  simp only [Value.cells] at e
  rw [e]

theorem open_row8 {v : Value} {r : Reach} {b0 : Nat} {d : DataW H} {p : List MemPlace} (hv : Value.okWide Ybad.prog w r b0 22 v) (h : DataW.Trod enc Ybad.prog w 0 (fun _ => true) held 22 v d p) :
    ∃ a len cap, v = .slice a len cap ∧ len ≤ maxLen ∧ Row8 w a len := by
  obtain ⟨a, len, cap, rfl⟩ := okWide_slice Ybad.underlying22 hv
  refine ⟨a, len, cap, rfl, ?_⟩
  obtain ⟨fuel, hf⟩ := h
  rcases open_ints Ybad.underlying22 Ybad.underlying5 (by kernel_rfl) hf with ⟨hcs, _⟩ | ⟨x, l, c, zs, hcs, _, hl, hm, hz, _, hcell, hwz⟩
  · simp [Value.cells] at hcs
    obtain ⟨rfl, rfl, rfl⟩ := hcs
    exact ⟨Nat.zero_le _, .inl rfl⟩
  · simp [Value.cells] at hcs
    obtain ⟨rfl, rfl, rfl⟩ := hcs
    have hz' : zs.length = cap := by simpa using hz
    refine ⟨by omega, ?_⟩
    by_cases h0 : len = 0
    · exact .inl h0
    · right
      obtain ⟨b, off, rfl, hc⟩ := ints_at hcell (by omega)
      refine ⟨b, off, rfl, ?_, fun i hi => ?_⟩
      · have := hc 0 (by omega)
        unfold World.cell? at this
        split at this
        · rename_i hb
          exact (Array.getElem?_eq_some_iff.1 hb).1
        · simp at this
      · have hb := range_u8 hwz i
        exact ⟨zs.getD i 0, by simpa [List.getD] using hb.1, by simpa [List.getD] using hb.2, hc i (by omega)⟩
end

abbrev nStart : String := Rows.lawS2745AStdOnlySpec.vars.getD 0 ""
abbrev nEnd : String := Rows.lawS2745AStdOnlySpec.vars.getD 1 ""
theorem gStart : Ybad.prog.globalNamed nStart = some 0 := by kernel_rfl
theorem gEnd : Ybad.prog.globalNamed nEnd = some 1 := by kernel_rfl
theorem tStart : (Ybad.prog.globals[0]?).map (·.type) = some 34 := by kernel_rfl
theorem tEnd : (Ybad.prog.globals[1]?).map (·.type) = some 34 := by kernel_rfl

theorem var_lt {P : Program} {W : World} {n : String} {g : Nat} {cs : Array Value} (hg : P.globalNamed n = some g) (h : W.var? P n = some cs) : g < W.heap.size := by
  unfold World.var? at h
  simp only [hg, Option.bind_some] at h
  split at h
  · rename_i hb
    exact (Array.getElem?_eq_some_iff.1 hb).1
  · simp at h

/-- The two named variables read behind the call as before it. -/
theorem vars_below {H : Type} {enc : TypeId × Value → H} {W W' : World} {gs : List (DataW H)} {q : List MemPlace} (hb : Below W.heap.size W W') (h : DataW.TrodVars enc Ybad.prog W (fun _ => true) [nStart, nEnd] gs q) :
    DataW.TrodVars enc Ybad.prog W' (fun b => decide (b < W.heap.size)) [nStart, nEnd] gs q := by
  obtain ⟨g0, t0, cs0, f0, d0, p0, g1, t1, cs1, f1, d1, p1, rfl, hg0, ht0, hv0, hd0, hg1, ht1, hv1, hd1, rfl⟩ := trodVars_two h
  obtain rfl := Option.some.inj (gStart.symm.trans hg0)
  obtain rfl := Option.some.inj (tStart.symm.trans ht0)
  obtain rfl := Option.some.inj (gEnd.symm.trans hg1)
  obtain rfl := Option.some.inj (tEnd.symm.trans ht1)
  have k0 : DataW.Trod enc Ybad.prog W 0 (fun _ => true) true 34 (.agg cs0) d0 p0 := ⟨f0, hd0⟩
  have k1 : DataW.Trod enc Ybad.prog W 0 (fun _ => true) true 34 (.agg cs1) d1 p1 := ⟨f1, hd1⟩
  obtain ⟨m0, r0⟩ := Below.trod laidOut (by kernel_rfl) (of_decide_eq_true (by kernel_rfl)) k0 hb (DataW.trod_lt f0 _ _ _ hd0)
  obtain ⟨m1, r1⟩ := Below.trod laidOut (by kernel_rfl) (of_decide_eq_true (by kernel_rfl)) k1 hb (DataW.trod_lt f1 _ _ _ hd1)
  exact ⟨0, 34, cs0, m0, p0, _, gStart, tStart, var?_below hb gStart (var_lt gStart hv0) hv0, r0, ⟨1, 34, cs1, m1, p1, [], gEnd, tEnd, var?_below hb gEnd (var_lt gEnd hv1) hv1, r1, rfl, by simp⟩, rfl⟩

end Go.Proofs.YbulkbdvcDoor.O
