/-
  The proof of 'Rows.LawS2745AStdOnlyCardSaid': the row by the walk, the card by the builder's one call.
-/
import Derived.Test.YbulkbdvcDoorRows
import Derived.Test.YbulkbdvcDoorTie
import Derived.Test.YbulkbdvcDoorCards
import Derived.Test.YbulkbdvcDoorOpen
import Derived.Test.YbulkbdvcDoorStdWalk
import Derived.LaidMore
import Derived.Stop.Joined
import Derived.SevenTiedAt
namespace Go.Proofs.YbulkbdvcDoor.stdOnly
open Go.ChangeShapes Go.WideShapes Go.ChangeAt Go.RowKit
open Go.ChangeMaps (open_string shut_string)
open Go.Proofs.YbulkbdvcDoor.W Go.Proofs.YbulkbdvcDoor.O
set_option linter.unusedVariables false

abbrev laid : List (String × DataW Unit) := Rows.lawS2745AStdOnlyRow.laid

theorem door_met (os : Os) (args : Array Value) : laidMetH Ybad.prog laid ((World.doorLaid Ybad.prog 400 os).forCall (fun _ _ => 0) ⟨#[], args, []⟩).memory :=
  laidMetH_of_parts3 (fuel := 8) (laidMet_of_run' 8 (by kernel_rfl) (by kernel_rfl)) (by kernel_rfl) (by kernel_rfl)

set_option maxRecDepth 100000 in
theorem lifted (os : Os) (started : os.Started) (H : Type) (enc : TypeId × Value → H) :
    ReturnsInHanded {} Ybad.checked os 3 .any (fun w args => (Rows.lawS2745AStdOnlySpec.pre enc Ybad.prog Ybad.f3 [] false w args ∧ laidMetH Ybad.prog laid w) ∧ sizedMet enc Ybad.prog Ybad.f3 (OpenSpec.ofChange Rows.lawS2745AStdOnlySpec) false w args)
      (Rows.lawS2745AStdOnlySpec.post enc Ybad.prog Ybad.f3 false true false false) := by
  refine returnsInHanded_of_change_and (C := Ybad.checked) (X := fun w _ => laidMetH Ybad.prog laid w) (fun _ _ _ hh h => h.of_heap hh) own started (by kernel_rfl) Ybad.func3
    (ChangeSpec.witness_shaped (enc := enc) (C := Ybad.checked) (os := os) (X := fun w _ => laidMetH Ybad.prog laid w) false (World.doorLaid Ybad.prog 400 os)
      #[.slice none 0 0, .bool false, .agg #[.int .u8 0, .int .u16 0, .int .u16 0, .int .u16 0, .int .u8 0], .bool false, .string ByteArray.empty] 8 rfl (World.shaped_of_RefB (by kernel_rfl) (by kernel_rfl)) (by kernel_rfl) (by kernel_rfl) (by kernel_rfl) (door_met os _)) ?_
  intro W base args ds gs before hval0 hW _ _ hL _
  have hval : ∀ (j : Nat) t v, Ybad.f3.params[j]? = some t → args[j]? = some v → Value.okWide Ybad.prog W .any base t v := hval0
  have hW' := hW
  obtain ⟨p, q, hA0, hV0, rfl, hfz, hnd⟩ := hW
  have hA : DataW.TrodAll enc Ybad.prog W 0 (fun _ => true) true Ybad.f3.params.toList args.toList ds p := hA0
  have hV : DataW.TrodVars enc Ybad.prog W (fun _ => true) [nStart, nEnd] gs q := hV0
  rw [Ybad.params3] at hA hval
  obtain ⟨v0, vs0, d0, ds0, p0, q0, hargs, rfl, rfl, h0, r0⟩ := trodAll_cons hA
  obtain ⟨v1, vs1, d1, ds1, p1, q1, rfl, rfl, rfl, h1, r1⟩ := trodAll_cons r0
  obtain ⟨v2, vs2, d2, ds2, p2, q2, rfl, rfl, rfl, h2, r2⟩ := trodAll_cons r1
  obtain ⟨v3, vs3, d3, ds3, p3, q3, rfl, rfl, rfl, h3, r3⟩ := trodAll_cons r2
  obtain ⟨v4, vs4, d4, ds4, p4, q4, rfl, rfl, rfl, h4, r4⟩ := trodAll_cons r3
  obtain ⟨rfl, rfl, rfl⟩ := trodAll_nil r4
  obtain rfl : args = #[v0, v1, v2, v3, v4] := by cases args; simp_all
  obtain ⟨g0, t0, cs0, f0, e0, pp0, g1, t1, cs1, f1, e1, pp1, rfl, _⟩ := trodVars_two hV
  have k0 := h0
  have k1 := h1
  have k2 := h2
  have k3 := h3
  have k4 := h4
  have lt0 : ∀ x ∈ p0, x.block < W.heap.size := by obtain ⟨m, hm⟩ := k0; exact DataW.trod_lt m _ _ _ hm
  have lt1 : ∀ x ∈ p1, x.block < W.heap.size := by obtain ⟨m, hm⟩ := k1; exact DataW.trod_lt m _ _ _ hm
  have lt2 : ∀ x ∈ p2, x.block < W.heap.size := by obtain ⟨m, hm⟩ := k2; exact DataW.trod_lt m _ _ _ hm
  have lt3 : ∀ x ∈ p3, x.block < W.heap.size := by obtain ⟨m, hm⟩ := k3; exact DataW.trod_lt m _ _ _ hm
  have lt4 : ∀ x ∈ p4, x.block < W.heap.size := by obtain ⟨m, hm⟩ := k4; exact DataW.trod_lt m _ _ _ hm
  obtain ⟨a, len, cap, rfl, hlm, hrow⟩ := open_row8 (hval 0 22 v0 rfl rfl) h0
  obtain ⟨G, h, M, S, F, rfl, hb⟩ := open_off (hval 2 25 v2 rfl rfl) h2
  have x1 : ∃ b, v1 = .bool b := by obtain ⟨b, rfl, _⟩ := open_bool Ybad.underlying4 (hval 1 4 v1 rfl rfl) h1; exact ⟨b, rfl⟩
  have x3 : ∃ b, v3 = .bool b := by obtain ⟨b, rfl, _⟩ := open_bool Ybad.underlying4 (hval 3 4 v3 rfl rfl) h3; exact ⟨b, rfl⟩
  have x4 : ∃ s : ByteArray, v4 = .string s ∧ s.size ≤ maxLen := by obtain ⟨s, rfl, _, _, hs⟩ := open_string Ybad.underlying9 (hval 4 9 v4 rfl rfl) h4; exact ⟨s, rfl, hs⟩
  obtain ⟨angle, rfl⟩ := x1
  obtain ⟨trail, rfl⟩ := x3
  obtain ⟨tail, rfl, htm⟩ := x4
  clear hA0 hval0 hV0
  refine (std_walk a len cap angle G h M S F trail tail hb.g0 hb.g9 hb.h0 hb.h9 hb.m0 hb.m9 hb.s0 hb.s9 hb.f0 hb.f9 hlm htm W hrow).mono fun e W' ⟨he, bel⟩ => ?_
  subst he
  exact ⟨_, rfl, _, _, _, [], _, _, hW', trodAll_mk1 (shut_bool Ybad.underlying4 _),
    (trodAll_cons_mk (Below.trod laidOut (by kernel_rfl) (of_decide_eq_true (by kernel_rfl)) k0 bel lt0) (trodAll_cons_mk (Below.trod laidOut (by kernel_rfl) (of_decide_eq_true (by kernel_rfl)) k1 bel lt1)
      (trodAll_cons_mk (Below.trod laidOut (by kernel_rfl) (of_decide_eq_true (by kernel_rfl)) k2 bel lt2) (trodAll_cons_mk (Below.trod laidOut (by kernel_rfl) (of_decide_eq_true (by kernel_rfl)) k3 bel lt3)
        (trodAll_cons_mk (Below.trod laidOut (by kernel_rfl) (of_decide_eq_true (by kernel_rfl)) k4 bel lt4) trodAll_mk0))))),
    vars_below bel hV, bel.frame _, fun h => by cases h⟩

theorem row_holds : Rows.LawS2745AStdOnlySaid :=
  OpenClaim.holds_of_wide 3 Ybad.f3 rfl rfl rfl rfl rfl rfl rfl ⟨rfl, rfl, rfl, rfl, rfl⟩ rfl rfl rfl rfl rfl (by kernel_rfl) Ybad.func3 (by kernel_rfl)
    (of_decide_eq_true (by kernel_rfl)) (by unfold Func.isWrapper; first | (rw [if_pos (by decide +kernel)]; kernel_rfl) | (rw [if_neg (by decide +kernel)]; exact ⟨rfl, rfl⟩))
    (fun os started H enc _ => lifted os started H enc)

/-- THE STATEMENT: the tied card. -/
theorem proved : Rows.LawS2745AStdOnlyCardSaid :=
  Claim7.holds_tied_plain_at .later [] [.data, .data] true (true, "41e6cc9cc12c1820eb4c1e4ee20a8ee4e9253ed19a88a540aedcbbda0dd76bdd") false
    row_holds (fun _ h => by cases h) (by kernel_rfl) (fun _ h => by cases h) lawS2745AStdOnly_row_tie rfl ⟨rfl, rfl⟩ (by kernel_rfl) rfl
    (fun f fn hf hfn => by
      obtain rfl : f = 3 := Option.some.inj ((show Ybad.prog.funcNamed Rows.lawS2745AStdOnlyRow.func = some 3 by kernel_rfl).symm.trans hf) |>.symm
      obtain rfl : fn = Ybad.f3 := (Option.some.inj (Ybad.func3.symm.trans hfn)).symm
      exact ⟨by kernel_rfl, fun j t ht => by
        rw [Ybad.params3] at ht
        have hm : t ∈ [22, 4, 25, 4, 9] := by simpa using Array.mem_of_getElem? ht
        have hall : ([22, 4, 25, 4, 9].all fun u => !Ybad.prog.wantsStandIn u) = true := by kernel_rfl
        exact (show Ybad.prog.wantsStandIn t = false by simpa using List.all_eq_true.1 hall t hm)⟩)
    (by kernel_rfl)
#print axioms proved
end Go.Proofs.YbulkbdvcDoor.stdOnly
