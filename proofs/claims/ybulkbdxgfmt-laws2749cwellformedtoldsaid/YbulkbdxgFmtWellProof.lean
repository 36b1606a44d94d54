/-
  The proof of 'Rows.LawS2749CWellFormedToldSaid': the row by the walk, the card by the builder's one call.
-/
import Derived.Test.YbulkbdxgFmtRows
import Derived.Test.YbulkbdxgFmtTie
import Derived.Test.YbulkbdxgFmtCards
import Derived.Test.YbulkbdxgFmtWell
import Derived.ProofKit
import Derived.LaidMore
import Derived.Deep.DeepWitnessRef
import Derived.Deep.DeepWitnessRowRef
import Derived.Stop.JoinedAt
import Derived.Stop.JoinedTold
import Derived.SevenTiedAt
namespace Go.Proofs.YbulkbdxgFmt.well
open Go.ChangeShapes Go.WideShapes Go.ChangeAt Go.RowKit
open Go.ChangeMaps (open_string shut_string)
open Go.Extern.Stop Go.Stop Go.Extern
open Go.Proofs.YbulkbdxgFmt.W
set_option linter.unusedVariables false

theorem own : ownKnob Ybaf.prog.godebug = none := by kernel_rfl
theorem laidOut : laidOutB Ybaf.prog = true := by kernel_rfl
theorem stops : Ybaf.pinned.checked.prog.stops = ["fmt.errorf"] := by kernel_rfl
theorem stopKnobs : Ybaf.pinned.checked.prog.stopKnobs = [] := by kernel_rfl
theorem quiet (os : Os) : Stop.quiet Ybaf.pinned.checked.prog os := by
  intro k hk
  rw [stopKnobs] at hk
  cases hk

abbrev args0 : Array Value := #[.int .u8 0, .int .u16 0, .slice none 0 0, .bool false]
abbrev laid : List (String × DataW Unit) := Rows.lawS2749CWellFormedRow.laid

theorem door_met (os : Os) (args : Array Value) : laidMet Ybaf.prog laid ((World.doorLaid Ybaf.prog 400 os).forCall (fun _ _ => 0) ⟨#[], args, []⟩).memory :=
  laidMet_of_run' 8 (by kernel_rfl) (by kernel_rfl)

theorem witness_row (os : Os) {H : Type} (enc : TypeId × Value → H) :
    (OpenSpec.ofChange Rows.lawS2749CWellFormedSpec).preRow enc Ybaf.prog Ybaf.f4 Rows.lawS2749CWellFormedRow.domain false Rows.lawS2749CWellFormedRow.laid ((World.doorLaid Ybaf.prog 400 os).forCall (fun _ _ => 0) ⟨#[], args0, []⟩).memory args0 := by
  have hw : (DataW.whole enc Ybaf.prog ((World.doorLaid Ybaf.prog 400 os).forCall (fun _ _ => 0) ⟨#[], args0, []⟩).memory Ybaf.f4.params.toList (OpenSpec.ofChange Rows.lawS2749CWellFormedSpec).vars false args0.toList 8).map (fun x => (x.1, x.2.1)) =
      some ([.lit (.int .u8 0), .lit (.int .u16 0), .nil, .lit (.bool false)], []) := by kernel_rfl
  obtain ⟨⟨x1, x2, x3⟩, hx, hx1⟩ := Option.map_eq_some_iff.1 hw
  simp only [Prod.mk.injEq] at hx1
  obtain ⟨rfl, rfl⟩ := hx1
  exact OpenSpec.preRow_of_cond 8 hx (by kernel_rfl) (fun k hk => by cases hk) (by kernel_rfl) (door_met os _)

theorem open_rowF {H : Type} {enc : TypeId × Value → H} {w : World} {held : Bool} {v : Value} {r : Reach} {b0 : Nat} {d : DataW H} {p : List MemPlace} (hv : Value.okWide Ybaf.prog w r b0 38 v) (h : DataW.Trod enc Ybaf.prog w 0 (fun _ => true) held 38 v d p) :
    ∃ a len cap f, v = .slice a len cap ∧ len ≤ maxLen ∧ RowF w a len f := by
  obtain ⟨a, len, cap, rfl⟩ := okWide_slice Ybaf.underlying38 hv
  obtain ⟨fuel, hf⟩ := h
  rcases open_ints Ybaf.underlying38 Ybaf.underlying5 (by kernel_rfl) hf with ⟨hcs, _⟩ | ⟨x, l, c, zs, hcs, _, hl, hm, hz, _, hcell, hwz⟩
  · simp [Value.cells] at hcs
    obtain ⟨rfl, rfl, rfl⟩ := hcs
    exact ⟨_, _, _, fun _ => 0, rfl, Nat.zero_le _, .inl rfl⟩
  · simp [Value.cells] at hcs
    obtain ⟨rfl, rfl, rfl⟩ := hcs
    have hz' : zs.length = cap := by simpa using hz
    refine ⟨_, _, _, fun i => (zs.getD i 0).toNat, rfl, by omega, ?_⟩
    by_cases h0 : len = 0
    · exact .inl h0
    · right
      obtain ⟨b, off, rfl, hc⟩ := ints_at hcell (by omega)
      refine ⟨b, off, rfl, ?_, fun i hi => ?_⟩
      · have := hc 0 (by omega)
        unfold World.cell? at this
        split at this
        · rename_i hb
          exact (Array.getElem?_eq_some_iff.1 hb).1
        · simp at this
      · have hb := range_u8 hwz i
        have hb1 : 0 ≤ zs.getD i 0 := by simpa [List.getD] using hb.1
        have hb2 : zs.getD i 0 ≤ 255 := by simpa [List.getD] using hb.2
        refine ⟨by show (zs.getD i 0).toNat < 256; omega, ?_⟩
        rw [hc i (by omega)]
        show some (Value.int .u8 (zs.getD i 0)) = some (.int .u8 (((zs.getD i 0).toNat : Nat) : Int))
        rw [Int.toNat_of_nonneg hb1]

set_option maxHeartbeats 400000 in
theorem well_long (a nn : Int) (ad : Option Addr) (len cap : Nat) (up : Bool) (hl : 4096 < len) (hm : len ≤ maxLen) (w : World) :
    Calls Ybaf.prog 4 #[.int .u8 a, .int .u16 nn, .slice ad len cap, .bool up] w fun e w' => e = .returned (.bool true) ∧ Below w.heap.size w w' := by
  unfold maxLen at hm
  have hl' : (4096 : Int) < len := by omega
  go_enter Ybaf.func4, Ybaf.ntmps4
  go_wp2
  go_ret
  exact ⟨rfl, Below.refl _ _⟩

theorem well_all (a nn : Int) (ad : Option Addr) (len cap : Nat) (up : Bool) (ha : 0 ≤ a) (ha2 : a ≤ 255) (hn : 0 ≤ nn) (hn2 : nn ≤ 65535) (hm : len ≤ maxLen) (f : Nat → Nat) (w : World) (hrow : RowF w ad len f) :
    Calls Ybaf.prog 4 #[.int .u8 a, .int .u16 nn, .slice ad len cap, .bool up] w fun e w' => e = .returned (.bool true) ∧ Below w.heap.size w w' := by
  rcases Nat.lt_or_ge 4096 len with hl | hl
  · exact well_long a nn ad len cap up hl hm w
  · obtain ⟨x, rfl⟩ : ∃ x : Nat, a = x := ⟨a.toNat, by omega⟩
    obtain ⟨y, rfl⟩ : ∃ y : Nat, nn = y := ⟨nn.toNat, by omega⟩
    have hc : x % 4 = 0 ∨ x % 4 = 1 ∨ x % 4 = 2 ∨ x % 4 = 3 := by omega
    have hB : ∃ B : Int, IsBase ((x % 4 + 1 : Nat) : Int) B := by
      rcases hc with h | h | h | h <;> rw [h]
      · exact ⟨2, .inl ⟨rfl, rfl⟩⟩
      · exact ⟨4, .inr (.inl ⟨rfl, rfl⟩)⟩
      · exact ⟨8, .inr (.inr (.inl ⟨rfl, rfl⟩))⟩
      · exact ⟨16, .inr (.inr (.inr ⟨rfl, rfl⟩))⟩
    obtain ⟨B, hB⟩ := hB
    exact well_walk x y _ _ _ _ _ B hB ad len cap up (by omega) (by omega) rfl rfl rfl rfl rfl hl f w hrow

set_option maxRecDepth 100000 in
theorem lifted (os : Os) (started : os.Started) (H : Type) (enc : TypeId × Value → H) :
    ReturnsInTold none {} Ybaf.checked os 4 .any Input.okWide ((OpenSpec.ofChange Rows.lawS2749CWellFormedSpec).preRow enc Ybaf.prog Ybaf.f4 Rows.lawS2749CWellFormedRow.domain false Rows.lawS2749CWellFormedRow.laid)
      (fun F => ((OpenSpec.ofChange Rows.lawS2749CWellFormedSpec).at F).post enc Ybaf.prog Ybaf.f4 false true false false) (aloneAtReturn Ybaf.prog) nothingAlways := by
  refine returnsInTold_of_row (C := Ybaf.checked) (s := OpenSpec.ofChange Rows.lawS2749CWellFormedSpec) (by kernel_rfl) own started (by kernel_rfl) Ybaf.func4
    (OpenSpec.witness_stopped_atRef (enc := enc) (C := Ybaf.checked) false (World.doorLaid Ybaf.prog 400 os) args0 rfl (by kernel_rfl) (by kernel_rfl) (by kernel_rfl) (witness_row os enc)) ?_
  intro F W base args ds gs before _ hF hval0 hW hcnd0 _ _ hL _
  have hval : ∀ (j : Nat) t v, Ybaf.f4.params[j]? = some t → args[j]? = some v → Value.okWide Ybaf.prog W .any base t v := hval0
  have hW' := hW
  obtain ⟨p, q, hA0, hV0, rfl, _, _⟩ := hW
  have hA : DataW.TrodAll enc Ybaf.prog W 0 (fun _ => true) true Ybaf.f4.params.toList args.toList ds p := hA0
  rw [Ybaf.params4] at hA hval
  obtain ⟨v0, vs0, d0, ds0, p0, q0, hargs, rfl, rfl, h0, r0⟩ := trodAll_cons hA
  obtain ⟨v1, vs1, d1, ds1, p1, q1, rfl, rfl, rfl, h1, r1⟩ := trodAll_cons r0
  obtain ⟨v2, vs2, d2, ds2, p2, q2, rfl, rfl, rfl, h2, r2⟩ := trodAll_cons r1
  obtain ⟨v3, vs3, d3, ds3, p3, q3, rfl, rfl, rfl, h3, r3⟩ := trodAll_cons r2
  obtain ⟨rfl, rfl, rfl⟩ := trodAll_nil r3
  obtain rfl : args = #[v0, v1, v2, v3] := by cases args; simp_all
  obtain ⟨rfl, rfl⟩ := trodVars_none hV0
  have k2 := h2
  have lt2 : ∀ x ∈ p2, x.block < W.heap.size := by obtain ⟨m, hm⟩ := k2; exact DataW.trod_lt m _ _ _ hm
  obtain ⟨ad, len, cap, f, rfl, hlm, hrow⟩ := open_rowF (hval 2 38 v2 rfl rfl) h2
  obtain ⟨a, rfl, rfl, rfl, wa⟩ := open_int Ybaf.underlying5 (hval 0 5 v0 rfl rfl) h0
  obtain ⟨nn, rfl, rfl, rfl, wn⟩ := open_int Ybaf.underlying22 (hval 1 22 v1 rfl rfl) h1
  obtain ⟨up, rfl, rfl, rfl⟩ := open_bool Ybaf.underlying4 (hval 3 4 v3 rfl rfl) h3
  clear hA0 hval0 hV0
  have ha : 0 ≤ a ∧ a ≤ 255 := by
    have e1 : IntKind.u8.min = 0 := rfl
    have e2 : IntKind.u8.max = 255 := rfl
    simpa [Lit.wf, e1, e2] using wa
  have hn : 0 ≤ nn ∧ nn ≤ 65535 := by
    have e1 : IntKind.u16.min = 0 := rfl
    have e2 : IntKind.u16.max = 65535 := rfl
    simpa [Lit.wf, e1, e2] using wn
  refine (well_all a nn ad len cap up ha.1 ha.2 hn.1 hn.2 hlm f W hrow).mono fun e W' ⟨he, bel⟩ => ?_
  subst he
  exact ⟨_, rfl, _, _, _, [], _, [], hW', trodAll_mk1 (shut_bool Ybaf.underlying4 _),
    (trodAll_cons_mk (shut_int Ybaf.underlying5 wa) (trodAll_cons_mk (shut_int Ybaf.underlying22 wn) (trodAll_cons_mk (Below.trod laidOut (by kernel_rfl) (of_decide_eq_true (by kernel_rfl)) k2 bel lt2)
      (trodAll_cons_mk (shut_bool Ybaf.underlying4 _) trodAll_mk0)))),
    rfl, bel.frame _, fun h => by cases h⟩

/-- THE STATEMENT: the told and tied card. -/
theorem proved : Rows.LawS2749CWellFormedToldSaid :=
  Claim7.holds_of_told_tied_any_at .later 4 Ybaf.f4 "fmt.errorf" [] [] (true, "9d41720a43a1fe4b6729b397a8c4db0cf5ec40439848f4f18a3bb5d30df7520f") true false [.data, .data, .data, .sentinel, .sentinel] true
    (by kernel_rfl) rfl rfl rfl laidOut (by kernel_rfl) rfl ⟨rfl, rfl, rfl, rfl, rfl, rfl, rfl⟩ rfl rfl (by kernel_rfl) (by kernel_rfl) Ybaf.func4 (by kernel_rfl)
    (of_decide_eq_true (by kernel_rfl)) (by unfold Func.isWrapper; first | (rw [if_pos (by decide +kernel)]; kernel_rfl) | (rw [if_neg (by decide +kernel)]; exact ⟨rfl, rfl⟩)) stops.symm rfl stopKnobs.symm (by kernel_rfl)
    (by kernel_rfl) (by kernel_rfl) (by kernel_rfl) (by kernel_rfl) (by kernel_rfl) (by kernel_rfl) (by kernel_rfl) (by kernel_rfl) (by kernel_rfl) rfl (by kernel_rfl) rfl rfl
    rfl rfl
    rfl (by kernel_rfl) (by kernel_rfl) (by kernel_rfl) (by decide) (by kernel_rfl) lawS2749CWellFormed_row_tie
    (OpenClaim.moreEntering_of (by kernel_rfl) (by kernel_rfl) (by kernel_rfl) (by kernel_rfl) (by kernel_rfl) (by kernel_rfl) (by kernel_rfl) (by kernel_rfl) (by kernel_rfl) (by kernel_rfl))
    ⟨_, WideRow.started_initial, quiet _⟩
    (fun os started _ H enc _ => lifted os started H enc)
#print axioms proved
end Go.Proofs.YbulkbdxgFmt.well
