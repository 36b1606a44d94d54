/-
  The proof of 'Rows.LawS2749CExactToldSaid': the row by the walk, the card by the builder's one call.
-/
import Derived.Test.YbulkbdxgFmtRows
import Derived.Test.YbulkbdxgFmtTie
import Derived.Test.YbulkbdxgFmtCards
import Derived.Test.YbulkbdxgFmtExactGood
import Derived.Stop.LaidErr
import Derived.ProofKit
import Derived.LaidMore
import Derived.Deep.DeepWitnessRef
import Derived.Deep.DeepWitnessRowRef
import Derived.Stop.JoinedAt
import Derived.Stop.JoinedTold
import Derived.SevenTiedAt
namespace Go.Proofs.YbulkbdxgFmt.exact
open Go.ChangeShapes Go.WideShapes Go.ChangeAt Go.RowKit
open Go.ChangeMaps (open_string shut_string)
open Go.Extern.Stop Go.Stop Go.Extern
open Go.Proofs.YbulkbdxgFmt.W
set_option linter.unusedVariables false

theorem own : ownKnob Ybaf.prog.godebug = none := by kernel_rfl
theorem laidOut : laidOutB Ybaf.prog = true := by kernel_rfl
theorem stops : Ybaf.pinned.checked.prog.stops = ["fmt.errorf"] := by kernel_rfl
theorem stopKnobs : Ybaf.pinned.checked.prog.stopKnobs = [] := by kernel_rfl
theorem quiet (os : Os) : Stop.quiet Ybaf.pinned.checked.prog os := by
  intro k hk
  rw [stopKnobs] at hk
  cases hk

abbrev args0 : Array Value := #[.int .u8 0, .int .u16 0, .string ⟨#[]⟩]
abbrev laid : List (String × DataW Unit) := Rows.lawS2749CExactRow.laid

theorem door_met (os : Os) (args : Array Value) : laidMet Ybaf.prog laid ((World.doorLaid Ybaf.prog 400 os).forCall (fun _ _ => 0) ⟨#[], args, []⟩).memory :=
  laidMet_of_run' 8 (by kernel_rfl) (by kernel_rfl)

theorem witness_row (os : Os) {H : Type} (enc : TypeId × Value → H) :
    (OpenSpec.ofChange Rows.lawS2749CExactSpec).preRow enc Ybaf.prog Ybaf.f3 Rows.lawS2749CExactRow.domain false Rows.lawS2749CExactRow.laid ((World.doorLaid Ybaf.prog 400 os).forCall (fun _ _ => 0) ⟨#[], args0, []⟩).memory args0 := by
  have hw : (DataW.whole enc Ybaf.prog ((World.doorLaid Ybaf.prog 400 os).forCall (fun _ _ => 0) ⟨#[], args0, []⟩).memory Ybaf.f3.params.toList (OpenSpec.ofChange Rows.lawS2749CExactSpec).vars false args0.toList 8).map (fun x => (x.1, x.2.1)) =
      some ([.lit (.int .u8 0), .lit (.int .u16 0), .lit (.string [])], []) := by kernel_rfl
  obtain ⟨⟨x1, x2, x3⟩, hx, hx1⟩ := Option.map_eq_some_iff.1 hw
  simp only [Prod.mk.injEq] at hx1
  obtain ⟨rfl, rfl⟩ := hx1
  exact OpenSpec.preRow_of_cond 8 hx (by kernel_rfl) (fun k hk => by cases hk) (by kernel_rfl) (door_met os _)

set_option maxHeartbeats 400000 in
theorem exact_long (a nn : Int) (T : ByteArray) (hl : 4096 < T.size) (hm : T.size ≤ maxLen) (w : World) :
    Calls Ybaf.prog 3 #[.int .u8 a, .int .u16 nn, .string T] w fun e w' => e = .returned (.bool true) ∧ Below w.heap.size w w' := by
  unfold maxLen at hm
  have hl' : (4096 : Int) < T.size := by omega
  go_enter Ybaf.func3, Ybaf.ntmps3
  go_wp2
  go_ret
  exact ⟨rfl, Below.refl _ _⟩

/-- Either all are good, or there is a first bad one. -/
theorem first_bad (f : Nat → Int) (B : Int) : ∀ n, (∀ k, k < n → f k < B) ∨ ∃ j, j < n ∧ (∀ k, k < j → f k < B) ∧ B ≤ f j
  | 0 => .inl fun k hk => absurd hk (Nat.not_lt_zero k)
  | n + 1 => by
    rcases first_bad f B n with h | ⟨j, hj, h1, h2⟩
    · by_cases hn : f n < B
      · left
        intro k hk
        by_cases e : k = n
        · subst e; exact hn
        · exact h k (by omega)
      · exact .inr ⟨n, by omega, h, by omega⟩
    · exact .inr ⟨j, by omega, h1, h2⟩

theorem exact_all (F : Interp) (a nn : Int) (T : ByteArray) (ha : 0 ≤ a) (ha2 : a ≤ 255) (hn : 0 ≤ nn) (hn2 : nn ≤ 65535) (hm : T.size ≤ maxLen) (te : TypeId) (pe : Value) (w : World) (hF : Go.Proofs.YbulkbdxgFmt.W.Told F w) (hv : w.cell? ⟨0, 0, Option.none⟩ = some (.iface te pe)) :
    Calls Ybaf.prog 3 #[.int .u8 a, .int .u16 nn, .string T] w fun e w' => e = .returned (.bool true) ∧ Below w.heap.size w w' := by
  rcases Nat.lt_or_ge 4096 T.size with hl | hl
  · exact exact_long a nn T hl hm w
  · obtain ⟨x, rfl⟩ : ∃ x : Nat, a = x := ⟨a.toNat, by omega⟩
    obtain ⟨y, rfl⟩ : ∃ y : Nat, nn = y := ⟨nn.toNat, by omega⟩
    obtain ⟨q, r, m, d, W0, hN, hd⟩ := nums x y (by omega) (by omega)
    have hc : x % 4 = 0 ∨ x % 4 = 1 ∨ x % 4 = 2 ∨ x % 4 = 3 := by omega
    have hB : ∃ B : Int, IsBase (d : Int) B := by
      rw [hd]
      rcases hc with h | h | h | h <;> rw [h]
      · exact ⟨2, .inl ⟨rfl, rfl⟩⟩
      · exact ⟨4, .inr (.inl ⟨rfl, rfl⟩)⟩
      · exact ⟨8, .inr (.inr (.inl ⟨rfl, rfl⟩))⟩
      · exact ⟨16, .inr (.inr (.inr ⟨rfl, rfl⟩))⟩
    obtain ⟨B, hB⟩ := hB
    by_cases hlen : T.size = 0 ∨ 256 < T.size * d
    · exact exact_len F x y q r m d W0 B hB hN T hl hlen w hF
    · rcases first_bad (fun k => (dval (byteN T k) : Int)) B T.size with h | ⟨j, hj, h1, h2⟩
      · exact exact_good x y q r m d W0 _ _ B hB hN T rfl (by omega) rfl (by omega) h w
      · exact exact_bad F x y q r m d W0 _ _ j B hB hN T rfl (by omega) rfl (by omega) hj h1 h2 te pe w hF hv

theorem star : "*" ++ "errors.errorString" = "*errors.errorString" := by decide
theorem row51 (u : TypeId) (h : Ybaf.prog.typeName? 3 u = some "*errors.errorString") : u = 51 :=
  typeName_ptr_named (nm := "errors.errorString") (by rw [star]; kernel_rfl) (by kernel_rfl) (by decide) u (by rw [star]; exact h)

set_option maxRecDepth 100000 in
theorem lifted (os : Os) (started : os.Started) (H : Type) (enc : TypeId × Value → H) :
    ReturnsInTold none {} Ybaf.checked os 3 .any Input.okWide ((OpenSpec.ofChange Rows.lawS2749CExactSpec).preRow enc Ybaf.prog Ybaf.f3 Rows.lawS2749CExactRow.domain false Rows.lawS2749CExactRow.laid)
      (fun F => ((OpenSpec.ofChange Rows.lawS2749CExactSpec).at F).post enc Ybaf.prog Ybaf.f3 false true false false) (aloneAtReturn Ybaf.prog) nothingAlways := by
  refine returnsInTold_of_row (C := Ybaf.checked) (s := OpenSpec.ofChange Rows.lawS2749CExactSpec) (by kernel_rfl) own started (by kernel_rfl) Ybaf.func3
    (OpenSpec.witness_stopped_atRef (enc := enc) (C := Ybaf.checked) false (World.doorLaid Ybaf.prog 400 os) args0 rfl (by kernel_rfl) (by kernel_rfl) (by kernel_rfl) (witness_row os enc)) ?_
  intro F W base args ds gs before _ hF hval0 hW hcnd0 _ _ hL _
  have hval : ∀ (j : Nat) t v, Ybaf.f3.params[j]? = some t → args[j]? = some v → Value.okWide Ybaf.prog W .any base t v := hval0
  have hW' := hW
  obtain ⟨p, q, hA0, hV0, rfl, _, _⟩ := hW
  have hA : DataW.TrodAll enc Ybaf.prog W 0 (fun _ => true) true Ybaf.f3.params.toList args.toList ds p := hA0
  rw [Ybaf.params3] at hA hval
  obtain ⟨v0, vs0, d0, ds0, p0, q0, hargs, rfl, rfl, h0, r0⟩ := trodAll_cons hA
  obtain ⟨v1, vs1, d1, ds1, p1, q1, rfl, rfl, rfl, h1, r1⟩ := trodAll_cons r0
  obtain ⟨v2, vs2, d2, ds2, p2, q2, rfl, rfl, rfl, h2, r2⟩ := trodAll_cons r1
  obtain ⟨rfl, rfl, rfl⟩ := trodAll_nil r2
  obtain rfl : args = #[v0, v1, v2] := by cases args; simp_all
  obtain ⟨rfl, rfl⟩ := trodVars_none hV0
  obtain ⟨a, rfl, rfl, rfl, wa⟩ := open_int Ybaf.underlying5 (hval 0 5 v0 rfl rfl) h0
  obtain ⟨nn, rfl, rfl, rfl, wn⟩ := open_int Ybaf.underlying22 (hval 1 22 v1 rfl rfl) h1
  obtain ⟨T, rfl, rfl, rfl, ws⟩ := open_string Ybaf.underlying9 (hval 2 9 v2 rfl rfl) h2
  clear hA0 hval0 hV0
  have ha : 0 ≤ a ∧ a ≤ 255 := by
    have e1 : IntKind.u8.min = 0 := rfl
    have e2 : IntKind.u8.max = 255 := rfl
    simpa [Lit.wf, e1, e2] using wa
  have hn : 0 ≤ nn ∧ nn ≤ 65535 := by
    have e1 : IntKind.u16.min = 0 := rfl
    have e2 : IntKind.u16.max = 65535 := rfl
    simpa [Lit.wf, e1, e2] using wn
  have hL' : laidMet Ybaf.prog laid W := hL
  obtain ⟨ae, se, hve, _, _, _⟩ := laid_sentinel (g := 0) hL'.tail.tail.tail.tail (by kernel_rfl) (by kernel_rfl) Ybaf.underlying30 row51 Ybaf.underlying51 Ybaf.underlying53 rfl rfl Ybaf.underlying9 (by kernel_rfl) (by kernel_rfl)
  have hc : W.cell? ⟨0, 0, Option.none⟩ = some (.iface 51 (.pointer (some ae))) := World.var?_cell (by kernel_rfl) hve 0
  refine (exact_all F.told a nn T ha.1 ha.2 hn.1 hn.2 ws _ _ W hF hc).mono fun e W' ⟨he, bel⟩ => ?_
  subst he
  exact ⟨_, rfl, _, _, _, [], _, [], hW', trodAll_mk1 (shut_bool Ybaf.underlying4 _),
    (trodAll_cons_mk (shut_int Ybaf.underlying5 wa) (trodAll_cons_mk (shut_int Ybaf.underlying22 wn) (trodAll_cons_mk (shut_string Ybaf.underlying9 ws) trodAll_mk0))),
    rfl, bel.frame _, fun h => by cases h⟩

/-- THE STATEMENT: the told and tied card. -/
theorem proved : Rows.LawS2749CExactToldSaid :=
  Claim7.holds_of_told_tied_any_at .later 3 Ybaf.f3 "fmt.errorf" [] [] (true, "9d41720a43a1fe4b6729b397a8c4db0cf5ec40439848f4f18a3bb5d30df7520f") true false [.data, .data, .data, .sentinel, .sentinel] true
    (by kernel_rfl) rfl rfl rfl laidOut (by kernel_rfl) rfl ⟨rfl, rfl, rfl, rfl, rfl, rfl, rfl⟩ rfl rfl (by kernel_rfl) (by kernel_rfl) Ybaf.func3 (by kernel_rfl)
    (of_decide_eq_true (by kernel_rfl)) (by unfold Func.isWrapper; first | (rw [if_pos (by decide +kernel)]; kernel_rfl) | (rw [if_neg (by decide +kernel)]; exact ⟨rfl, rfl⟩)) stops.symm rfl stopKnobs.symm (by kernel_rfl)
    (by kernel_rfl) (by kernel_rfl) (by kernel_rfl) (by kernel_rfl) (by kernel_rfl) (by kernel_rfl) (by kernel_rfl) (by kernel_rfl) (by kernel_rfl) rfl (by kernel_rfl) rfl rfl
    rfl rfl
    rfl (by kernel_rfl) (by kernel_rfl) (by kernel_rfl) (by decide) (by kernel_rfl) lawS2749CExact_row_tie
    (OpenClaim.moreEntering_of (by kernel_rfl) (by kernel_rfl) (by kernel_rfl) (by kernel_rfl) (by kernel_rfl) (by kernel_rfl) (by kernel_rfl) (by kernel_rfl) (by kernel_rfl) (by kernel_rfl))
    ⟨_, WideRow.started_initial, quiet _⟩
    (fun os started _ H enc _ => lifted os started H enc)
#print axioms proved
end Go.Proofs.YbulkbdxgFmt.exact
