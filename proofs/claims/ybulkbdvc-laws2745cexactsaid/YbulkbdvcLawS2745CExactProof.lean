/-
  The proof of 'Rows.LawS2745CExactSaid'. The frame is the guide's; the walk is typed here.
-/
import Derived.Test.YbulkbdvcRows
import Derived.Test.YbulkbdvcWalks
import Derived.WalkKit
import Derived.ProofKit
import Derived.OpenShut
import Derived.ShutString
namespace Go.Proofs.Ybulkbdvc.lawS2745CExact
open Go.Proofs.Ybulkbdvc.P Go.Proofs.Ybulkbdvc.W
open Go.ChangeShapes Go.WideShapes Go.ChangeAt Go.RowKit
open Go.ChangeMaps (open_string shut_string)
set_option linter.unusedVariables false      -- a walk need not use every 'w<i>' (that an integer argument fits its kind)

theorem own : ownKnob Yba.prog.godebug = none := by kernel_rfl

theorem more {a0 a1 : ByteArray} {k : Nat} {_ : k < a1.size} {_ : k < a0.size} (hall : ∀ j (_ : j < k) (h2 : j < a1.size) (h3 : j < a0.size), upB a1[j] = a0[j]) (h : upB a1[k] = a0[k]) :
    ∀ j (_ : j < k + 1) (h2 : j < a1.size) (h3 : j < a0.size), upB a1[j] = a0[j] := by
  intro j h1 h2 h3
  by_cases hj : j = k
  · subst hj; exact h
  · exact hall j (by omega) h2 h3

/-! ### STEP 1: THE WALK: the Go text returns true. 'Grown w w'': the world has at most new blocks (Derived/RowKit3.lean). Part the cases AHEAD of 'go_enter' where a test parts the walk; take each callee by a contract of your own. -/
theorem walk (a0 : ByteArray) (a1 : ByteArray) (w0 : a0.size ≤ maxLen) (w1 : a1.size ≤ maxLen) (w : World) :
    Calls Yba.prog 3 #[.string a0, .string a1] w fun e w' => e = .returned (.bool true) ∧ Grown w w' := by
  by_cases hbig : a0.size ≤ 4096 ∧ a1.size ≤ 4096
  · obtain ⟨hb0, hb1⟩ := hbig
    by_cases hl : a0.size = a1.size
    · have hl' : ((a0.size : Int) == (a1.size : Int)) = true := by simp [hl]
      have HL : Hid (a0.size = a1.size) := hl
      have hle1 : a0.size ≤ a1.size := by omega
      have hle2 : a1.size ≤ a0.size := by omega
      clear hl
      go_enter Yba.func3, Yba.ntmps3
      go_wp2
      go_loopw [5, 6] (fun b i wr => ∃ k : Nat, k ≤ a1.size ∧ b = .bool true ∧ i = .int .i64 k ∧ wr = w ∧ ∀ j (h1 : j < k) (h2 : j < a1.size) (h3 : j < a0.size), upB a1[j] = a0[j]) (fun _ i _ => a1.size - (intOf i).toNat)
      case atStart => exact ⟨0, Nat.zero_le _, rfl, rfl, rfl, fun j h => absurd h (Nat.not_lt_zero _)⟩
      case round =>
        obtain ⟨k, hk, rfl, rfl, rfl, hall⟩ := hrel
        by_cases hlt : k < a1.size
        · have hlu : k < a0.size := by omega
          have hc : a1[k].toNat < 256 := a1[k].toNat_lt
          by_cases hlow : 97 ≤ a1[k].toNat ∧ a1[k].toNat ≤ 122
          · have hl1 : isLow a1[k] = true := decide_eq_true hlow
            obtain ⟨hlo, hhi⟩ := hlow
            have hup := upB_yes a1[k] hlo hhi
            have hlo' : (97 : Int) ≤ (a1[k].toNat : Int) := by omega
            have hhi' : (a1[k].toNat : Int) ≤ 122 := by omega
            by_cases hne : upB a1[k] = a0[k]
            · have hq : ((a0[k].toNat : Int) != (a1[k].toNat : Int) - 32) = false := by rw [← hup, hne]; simp
              have H : Hid (upB a1[k] = a0[k]) := hne
              clear hne hup
              go_wp2_with fail
              refine (cup_any _ _).mono ?_
              rintro e w' ⟨rfl, rfl⟩
              go_wp2
              go_roundw
              case rel => exact ⟨k + 1, by omega, rfl, by go_num, trivial, more hall H.out⟩
              case measure => simp [intOf]; omega
            · have hq : ((a0[k].toNat : Int) != (a1[k].toNat : Int) - 32) = true := by
                rw [← hup, bne_iff_ne]; intro e; exact hne (UInt8.toNat_inj.1 (by omega))
              have hf : isUp a0.data.toList a1.data.toList = false := isUp_at k (by simpa using hlu) (by simpa using hlt) hne
              clear hne hup
              go_wp2_with fail
              refine (cup_any _ _).mono ?_
              rintro e w' ⟨rfl, rfl⟩
              go_wp2_with fail
              refine (iu_any a0 a1 (by omega) (by omega) _).mono ?_
              rintro e w' ⟨rfl, n, rfl⟩
              go_wp2
              go_ret
              exact ⟨rfl, Grown.refl _⟩
          · have hl1 : isLow a1[k] = false := decide_eq_false hlow
            have hup := upB_no a1[k] hlow
            clear hlow
            by_cases hne : upB a1[k] = a0[k]
            · have hq : ((a0[k].toNat : Int) != (a1[k].toNat : Int)) = false := by rw [← hne, hup]; simp
              have H : Hid (upB a1[k] = a0[k]) := hne
              clear hne hup
              go_wp2_with fail
              refine (cup_any _ _).mono ?_
              rintro e w' ⟨rfl, rfl⟩
              go_wp2
              go_roundw
              case rel => exact ⟨k + 1, by omega, rfl, by go_num, trivial, more hall H.out⟩
              case measure => simp [intOf]; omega
            · have hq : ((a0[k].toNat : Int) != (a1[k].toNat : Int)) = true := by
                rw [bne_iff_ne]; intro e; exact hne (by rw [hup]; exact UInt8.toNat_inj.1 (by omega))
              have hf : isUp a0.data.toList a1.data.toList = false := isUp_at k (by simpa using hlu) (by simpa using hlt) hne
              clear hne hup
              go_wp2_with fail
              refine (cup_any _ _).mono ?_
              rintro e w' ⟨rfl, rfl⟩
              go_wp2_with fail
              refine (iu_any a0 a1 (by omega) (by omega) _).mono ?_
              rintro e w' ⟨rfl, n, rfl⟩
              go_wp2
              go_ret
              exact ⟨rfl, Grown.refl _⟩
        · have hf : isUp a0.data.toList a1.data.toList = true := isUp_all (by simpa using HL.out) (fun j h1 h2 => hall j (by simp at h2; omega) (by simpa using h2) (by simpa using h1))
          clear hall
          go_wp2_with fail
          refine (iu_any a0 a1 (by omega) (by omega) _).mono ?_
          rintro e w' ⟨rfl, n, rfl⟩
          go_wp2
          go_ret
          exact ⟨rfl, Grown.refl _⟩
    · have hl' : ((a0.size : Int) == (a1.size : Int)) = false := by simp; omega
      have hf : isUp a0.data.toList a1.data.toList = false := isUp_len (by simpa using hl)
      go_enter Yba.func3, Yba.ntmps3
      go_wp2_with fail
      refine (iu_any a0 a1 (by omega) (by omega) _).mono ?_
      rintro e w' ⟨rfl, n, rfl⟩
      go_wp2
      go_ret
      exact ⟨rfl, Grown.refl w⟩
  · by_cases hb0 : a0.size ≤ 4096
    · have hb1 : (4096 : Int) < (a1.size : Int) := by omega
      have hb0' : (a0.size : Int) ≤ 4096 := by omega
      go_enter Yba.func3, Yba.ntmps3
      go_wp2
      go_ret
      exact ⟨rfl, Grown.refl w⟩
    · have hb1 : (4096 : Int) < (a0.size : Int) := by omega
      go_enter Yba.func3, Yba.ntmps3
      go_wp2
      go_ret
      exact ⟨rfl, Grown.refl w⟩

/-! ### THE ROW's STEP: WRITTEN OUT: LEAVE IT -/
set_option maxRecDepth 100000 in
theorem lifted (os : Os) (started : os.Started) (H : Type) (enc : TypeId × Value → H) :
    ReturnsInHanded {} Yba.checked os 3 .any (Rows.lawS2745CExactSpec.pre6 enc Yba.prog Yba.f3 Rows.lawS2745CExactRow.domain false) (Rows.lawS2745CExactSpec.post enc Yba.prog Yba.f3 false true false false) := by
  refine returnsInHanded_of_change (C := Yba.checked) own started (by kernel_rfl) Yba.func3
    (ChangeSpec.witness6 (enc := enc) (C := Yba.checked) false ⟨#[], #[.string ByteArray.empty, .string ByteArray.empty], []⟩ 8 (by kernel_rfl) (by kernel_rfl) (by kernel_rfl) (by kernel_rfl)) ?_
  intro W base args ds gs before hval0 hW hcnd _
  have hval : ∀ (j : Nat) t v, Yba.f3.params[j]? = some t → args[j]? = some v → Value.okWide Yba.prog W .any base t v := hval0
  have hW' := hW
  obtain ⟨p, q, hA0, hV, rfl, hfz, hnd⟩ := hW
  have hA : DataW.TrodAll enc Yba.prog W 0 (fun _ => true) true Yba.f3.params.toList args.toList ds p := hA0
  rw [Yba.params3] at hA hval
  obtain ⟨v0, vs0, d0, ds0, p0, q0, hargs, rfl, rfl, h0, r0⟩ := trodAll_cons hA
  obtain ⟨v1, vs1, d1, ds1, p1, q1, rfl, rfl, rfl, h1, r1⟩ := trodAll_cons r0
  obtain ⟨rfl, rfl, rfl⟩ := trodAll_nil r1
  obtain rfl : args = #[v0, v1] := by cases args; simp_all
  obtain ⟨rfl, rfl⟩ := trodVars_none hV
  obtain ⟨a0, rfl, rfl, rfl, w0⟩ := open_string Yba.underlying9 (hval 0 9 v0 rfl rfl) h0
  obtain ⟨a1, rfl, rfl, rfl, w1⟩ := open_string Yba.underlying9 (hval 1 9 v1 rfl rfl) h1
  clear hA0 hval0
  simp only [List.append_nil] at hW'
  refine (walk a0 a1 w0 w1 W).mono fun e W' ⟨he, hg⟩ => ?_
  subst he
  exact ⟨_, rfl, post_of_same (pa := []) (pv := []) hW' (fun _ _ _ => (trodAll_cons_mk (shut_bool Yba.underlying4 _) trodAll_mk0)) (fun sp _ => (trodAll_cons_mk (shut_string Yba.underlying9 w0) (trodAll_cons_mk (shut_string Yba.underlying9 w1) trodAll_mk0))) (fun _ _ => rfl) rfl
    (hg.frame _) hg.2.1 (ok_one (by kernel_rfl) rfl (okWide_bool_mk Yba.underlying4 _))⟩

theorem over : Rows.lawS2745CExactRow.holds Yba.pinned (OpenSpec.ofChange Rows.lawS2745CExactSpec) :=
  OpenClaim.holds_of_wide 3 Yba.f3 rfl rfl rfl rfl rfl rfl rfl ⟨rfl, rfl, rfl, rfl, rfl⟩ rfl rfl rfl rfl rfl (by kernel_rfl) Yba.func3 (by kernel_rfl)
    (of_decide_eq_true (by kernel_rfl)) (by unfold Func.isWrapper; first | (rw [if_pos (by decide +kernel)]; kernel_rfl) | (rw [if_neg (by decide +kernel)]; exact ⟨rfl, rfl⟩))
    (fun os started H enc _ => lifted os started H enc)

/-- ████ THE STATEMENT ████ -/
theorem proved : Rows.LawS2745CExactSaid :=
  over
#print axioms proved
end Go.Proofs.Ybulkbdvc.lawS2745CExact
