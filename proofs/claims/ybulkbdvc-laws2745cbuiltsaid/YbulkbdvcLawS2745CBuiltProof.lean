/-
  The proof of 'Rows.LawS2745CBuiltSaid'. The frame is the guide's; the walk is typed here.
-/
import Derived.Test.YbulkbdvcRows
import Derived.Test.YbulkbdvcUpper
import Derived.WalkKit
import Derived.ProofKit
import Derived.OpenShut
import Derived.ShutString
import Derived.WalkSmall
namespace Go.Proofs.Ybulkbdvc.lawS2745CBuilt
open Go.Proofs.Ybulkbdvc.P Go.Proofs.Ybulkbdvc.W Go.Proofs.Ybulkbdvc.B
open Go.ChangeShapes Go.WideShapes Go.ChangeAt Go.RowKit
open Go.ChangeMaps (open_string shut_string)
set_option linter.unusedVariables false      -- a walk need not use every 'w<i>' (that an integer argument fits its kind)

theorem own : ownKnob Yba.prog.godebug = none := by kernel_rfl

theorem index_of (a : Int) (n : Nat) (hn : 0 < n) (hb : n ≤ 4096) (ha : 0 ≤ a ∧ a ≤ 18446744073709551615) : ∃ k : Nat, wrap64 (a.tmod (n : Int)) = (k : Int) ∧ k < n := by
  refine ⟨(a % (n : Int)).toNat, ?_, ?_⟩
  · rw [Int.tmod_eq_emod_of_nonneg ha.1]
    have h1 := Int.emod_nonneg a (show (n : Int) ≠ 0 by omega)
    have h2 := Int.emod_lt_of_pos a (show 0 < (n : Int) by omega)
    unfold wrap64
    omega
  · have h1 := Int.emod_nonneg a (show (n : Int) ≠ 0 by omega)
    have h2 := Int.emod_lt_of_pos a (show 0 < (n : Int) by omega)
    omega

theorem stored_conv {w1 : World} {base g m cap k : Nat} {l : List UInt8} (h : w1.ownsRow base 5 1 (.slice (some ⟨g, 0, none⟩) m cap) m (bytesV l)) (n : Nat) {d : Int} (hl : l.length = m) (hk : k < m) (h0 : 0 < d) (h1 : d < 256) :
    ∃ (x : Int) (c : UInt8), 0 ≤ x ∧ x ≤ 255 ∧ w1.cell? ⟨g, k, none⟩ = some (.int .u8 x) ∧
      (convert 25 9 (.slice (some ⟨g, 0, none⟩) m cap)).run Yba.prog ((w1.drewN n).setCell ⟨g, k, none⟩ (.int .u8 ((x + d) % 256))) = .ok (.string (strB (l.set k c))) ((w1.drewN n).setCell ⟨g, k, none⟩ (.int .u8 ((x + d) % 256))) ∧
      c ≠ l[k] := by
  have hb : l[k].toNat < 256 := l[k].toNat_lt
  refine ⟨(l[k].toNat : Int), UInt8.ofNat ((l[k].toNat + d.toNat) % 256), by omega, by omega, own_cell h k (by omega) hk, ?_, ?_⟩
  · have e : (((l[k].toNat : Int) + d) % 256) = ((UInt8.ofNat ((l[k].toNat + d.toNat) % 256)).toNat : Int) := by
      rw [UInt8.toNat_ofNat']; omega
    rw [e]
    have ho : (w1.drewN n).ownsRow base 5 1 (.slice (some ⟨g, 0, none⟩) m cap) m (bytesV l) := h
    have := (ho.stored k (.int .u8 ((UInt8.ofNat ((l[k].toNat + d.toNat) % 256)).toNat : Int))).1
    rw [bytesV_set] at this
    exact own_conv this (by simpa using hl) Yba.underlying25 Yba.underlying5 Yba.underlying9
  · intro hc
    have := congrArg UInt8.toNat hc
    rw [UInt8.toNat_ofNat'] at this
    omega

/-! ### STEP 1: THE WALK: the Go text returns true. 'Grown w w'': the world has at most new blocks (Derived/RowKit3.lean). Part the cases AHEAD of 'go_enter' where a test parts the walk; take each callee by a contract of your own. -/
theorem walk (a0 : ByteArray) (a1 : Int) (a2 : Bool) (a3 : Int) (w0 : a0.size ≤ maxLen) (w1 : (Lit.int .u64 a1).wf = true) (w3 : (Lit.int .u8 a3).wf = true) (w : World) :
    Calls Yba.prog 4 #[.string a0, .int .u64 a1, .bool a2, .int .u8 a3] w fun e w' => e = .returned (.bool true) ∧ Below w.heap.size w w' := by
  by_cases hbig : a0.size ≤ 4096
  · have ht : isUp (strB (a0.data.toList.map upB)).data.toList a0.data.toList = true := by rw [strB_list]; exact isUp_self _
    by_cases hfl : a2 = true ∧ 0 < a0.size
    · obtain ⟨rfl, hpos⟩ := hfl
      have hpos' : ((a0.size : Int) == 0) = false := by rw [beq_eq_false_iff_ne]; omega
      obtain ⟨k, hk, hk2⟩ := index_of a1 a0.size hpos hbig (bounds_u64 w1)
      obtain ⟨hd0, hd1⟩ := bounds_u8 w3
      by_cases hd : a3 = 0
      · subst hd
        go_enter Yba.func4, Yba.ntmps4
        go_wp2_with fail
        refine (upper_any a0 hbig _).mono ?_
        rintro e w1 ⟨rfl, ho, hb, hz⟩
        have hcv := own_conv (P := Yba.prog) ho (by simp) Yba.underlying25 Yba.underlying5 Yba.underlying9
        have HO := hide ho
        have HB := hide hb
        clear ho hb
        go_wp2_with fail
        refine (iu_any _ a0 (by rw [strB_size]; simp; omega) (by omega) _).mono ?_
        rintro e w' ⟨rfl, n, rfl⟩
        obtain ⟨x, c, hx0, hx1, hcell, hcv2, hne⟩ := stored_conv HO.out n (d := 1) (by simp) hk2 (by omega) (by omega)
        have hfz := HO.out.frozenAt k
        have hf : isUp (strB ((a0.data.toList.map upB).set k c)).data.toList a0.data.toList = false := by
          rw [strB_list]; exact isUp_set _ _ _ (by simpa using hk2) (by simpa using hne)
        have HN := hide hne
        clear hne
        go_wp2_with fail
        refine (iu_any _ a0 (by rw [strB_size]; simp; omega) (by omega) _).mono ?_
        rintro e w' ⟨rfl, n2, rfl⟩
        go_wp2
        go_ret
        exact ⟨rfl, below_drewN (Below.setCell (below_drewN HB.out n) (Nat.le_refl _) _) n2⟩
      · have hd' : (a3 == 0) = false := by rw [beq_eq_false_iff_ne]; exact hd
        go_enter Yba.func4, Yba.ntmps4
        go_wp2_with fail
        refine (upper_any a0 hbig _).mono ?_
        rintro e w1 ⟨rfl, ho, hb, hz⟩
        have hcv := own_conv (P := Yba.prog) ho (by simp) Yba.underlying25 Yba.underlying5 Yba.underlying9
        have HO := hide ho
        have HB := hide hb
        clear ho hb
        go_wp2_with fail
        refine (iu_any _ a0 (by rw [strB_size]; simp; omega) (by omega) _).mono ?_
        rintro e w' ⟨rfl, n, rfl⟩
        obtain ⟨x, c, hx0, hx1, hcell, hcv2, hne⟩ := stored_conv HO.out n (d := a3) (by simp) hk2 (by omega) (by omega)
        have hfz := HO.out.frozenAt k
        have hf : isUp (strB ((a0.data.toList.map upB).set k c)).data.toList a0.data.toList = false := by
          rw [strB_list]; exact isUp_set _ _ _ (by simpa using hk2) (by simpa using hne)
        have HN := hide hne
        clear hne
        go_wp2_with fail
        refine (iu_any _ a0 (by rw [strB_size]; simp; omega) (by omega) _).mono ?_
        rintro e w' ⟨rfl, n2, rfl⟩
        go_wp2
        go_ret
        exact ⟨rfl, below_drewN (Below.setCell (below_drewN HB.out n) (Nat.le_refl _) _) n2⟩
    · have hfl' : (!a2 || ((a0.size : Int) == 0)) = true := by
        cases a2
        · rfl
        · simp at hfl ⊢; omega
      go_enter Yba.func4, Yba.ntmps4
      go_wp2_with fail
      refine (upper_any a0 hbig _).mono ?_
      rintro e w1 ⟨rfl, ho, hb, hz⟩
      have hcv := own_conv (P := Yba.prog) ho (by simp) Yba.underlying25 Yba.underlying5 Yba.underlying9
      have HB := hide hb
      clear ho hb
      go_wp2_with fail
      refine (iu_any _ a0 (by rw [strB_size]; simp; omega) (by omega) _).mono ?_
      rintro e w' ⟨rfl, n, rfl⟩
      cases a2 with
      | false =>
        go_wp2
        go_ret
        exact ⟨rfl, below_drewN HB.out n⟩
      | true =>
        have hz0 : ((a0.size : Int) == 0) = true := by simpa using hfl'
        clear hfl'
        go_wp2
        go_ret
        exact ⟨rfl, below_drewN HB.out n⟩
  · have hb1 : (4096 : Int) < (a0.size : Int) := by omega
    go_enter Yba.func4, Yba.ntmps4
    go_wp2
    go_ret
    exact ⟨rfl, Below.refl _ _⟩

/-! ### THE ROW's STEP: WRITTEN OUT: LEAVE IT -/
set_option maxRecDepth 100000 in
theorem lifted (os : Os) (started : os.Started) (H : Type) (enc : TypeId × Value → H) :
    ReturnsInHanded {} Yba.checked os 4 .any (Rows.lawS2745CBuiltSpec.pre6 enc Yba.prog Yba.f4 Rows.lawS2745CBuiltRow.domain false) (Rows.lawS2745CBuiltSpec.post enc Yba.prog Yba.f4 false true false false) := by
  refine returnsInHanded_of_change (C := Yba.checked) own started (by kernel_rfl) Yba.func4
    (ChangeSpec.witness6 (enc := enc) (C := Yba.checked) false ⟨#[], #[.string ByteArray.empty, .int .u64 0, .bool false, .int .u8 0], []⟩ 8 (by kernel_rfl) (by kernel_rfl) (by kernel_rfl) (by kernel_rfl)) ?_
  intro W base args ds gs before hval0 hW hcnd _
  have hval : ∀ (j : Nat) t v, Yba.f4.params[j]? = some t → args[j]? = some v → Value.okWide Yba.prog W .any base t v := hval0
  have hW' := hW
  obtain ⟨p, q, hA0, hV, rfl, hfz, hnd⟩ := hW
  have hA : DataW.TrodAll enc Yba.prog W 0 (fun _ => true) true Yba.f4.params.toList args.toList ds p := hA0
  rw [Yba.params4] at hA hval
  obtain ⟨v0, vs0, d0, ds0, p0, q0, hargs, rfl, rfl, h0, r0⟩ := trodAll_cons hA
  obtain ⟨v1, vs1, d1, ds1, p1, q1, rfl, rfl, rfl, h1, r1⟩ := trodAll_cons r0
  obtain ⟨v2, vs2, d2, ds2, p2, q2, rfl, rfl, rfl, h2, r2⟩ := trodAll_cons r1
  obtain ⟨v3, vs3, d3, ds3, p3, q3, rfl, rfl, rfl, h3, r3⟩ := trodAll_cons r2
  obtain ⟨rfl, rfl, rfl⟩ := trodAll_nil r3
  obtain rfl : args = #[v0, v1, v2, v3] := by cases args; simp_all
  obtain ⟨rfl, rfl⟩ := trodVars_none hV
  obtain ⟨a0, rfl, rfl, rfl, w0⟩ := open_string Yba.underlying9 (hval 0 9 v0 rfl rfl) h0
  obtain ⟨a1, rfl, rfl, rfl, w1⟩ := open_int Yba.underlying24 (hval 1 24 v1 rfl rfl) h1
  obtain ⟨a2, rfl, rfl, rfl⟩ := open_bool Yba.underlying4 (hval 2 4 v2 rfl rfl) h2
  obtain ⟨a3, rfl, rfl, rfl, w3⟩ := open_int Yba.underlying5 (hval 3 5 v3 rfl rfl) h3
  clear hA0 hval0
  refine (walk a0 a1 a2 a3 w0 w1 w3 W).mono fun e W' ⟨he, bel⟩ => ?_
  subst he
  exact ⟨_, rfl, _, _, _, [], _, [], hW', trodAll_mk1 (shut_bool Yba.underlying4 _), (trodAll_cons_mk (shut_string Yba.underlying9 w0) (trodAll_cons_mk (shut_int Yba.underlying24 w1) (trodAll_cons_mk (shut_bool Yba.underlying4 _) (trodAll_cons_mk (shut_int Yba.underlying5 w3) trodAll_mk0)))), rfl, bel.frame _, fun h => by cases h⟩

theorem over : Rows.lawS2745CBuiltRow.holds Yba.pinned (OpenSpec.ofChange Rows.lawS2745CBuiltSpec) :=
  OpenClaim.holds_of_wide 4 Yba.f4 rfl rfl rfl rfl rfl rfl rfl ⟨rfl, rfl, rfl, rfl, rfl⟩ rfl rfl rfl rfl rfl (by kernel_rfl) Yba.func4 (by kernel_rfl)
    (of_decide_eq_true (by kernel_rfl)) (by unfold Func.isWrapper; first | (rw [if_pos (by decide +kernel)]; kernel_rfl) | (rw [if_neg (by decide +kernel)]; exact ⟨rfl, rfl⟩))
    (fun os started H enc _ => lifted os started H enc)

/-- ████ THE STATEMENT ████ -/
theorem proved : Rows.LawS2745CBuiltSaid :=
  over
#print axioms proved
end Go.Proofs.Ybulkbdvc.lawS2745CBuilt
