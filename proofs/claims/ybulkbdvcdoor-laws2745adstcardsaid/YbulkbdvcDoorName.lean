import Derived.Test.YbulkbdvcDoorParse
namespace Go.Proofs.YbulkbdvcDoor.W
open Go.RowKit
open Go.Proofs.YbulkbdvcDoor.P Go.Proofs.YbulkbdvcDoor.B

set_option maxHeartbeats 400000 in
theorem name_angle_raw (b : Nat) (s : ByteArray) (m : Nat) (w : World)
    (h0 : w.cell? ⟨b, 0, none⟩ = some (.string s)) (h1 : w.cell? ⟨b, 1, none⟩ = some (.bool false)) (hf : w.frozen? ⟨b, 0, none⟩ = false) (hm : s.size ≤ 1000000)
    (hsz : m + 1 < s.size) (hlt : (s[0].toNat : Int) = 60) (hin : ∀ k (h : k < s.size), 1 ≤ k → k ≤ m → ((s[k].toNat : Int) == 62) = false) (hgt : ((s[m + 1].toNat : Int) == 62) = true) :
    Calls Ybad.prog 10 #[.pointer (some ⟨b, 0, none⟩)] w fun e w' => e = .returned (.string (s.extract 1 (m + 1))) ∧ w' = w.setCell ⟨b, 0, none⟩ (.string (s.extract (m + 2) s.size)) := by
  have hne : s.toList.isEmpty = false := nonempty (by omega)
  have hp : 0 < s.size := by omega
  have hl60 : ((s[0].toNat : Int) == 60) = true := by rw [hlt]; rfl
  have HI := hide hin
  clear hin hlt
  go_enter Ybad.func10, Ybad.ntmps10
  go_wp2
  go_loop [3] (fun i => ∃ k : Nat, 1 ≤ k ∧ k ≤ m + 1 ∧ i = .int .i64 k) (fun i => m + 1 - (intOf i).toNat)
  case atStart => exact ⟨1, by omega, by omega, rfl⟩
  case round =>
    obtain ⟨k, hk1, hk2, rfl⟩ := hrel
    have hks : k < s.size := by omega
    by_cases hkm : k ≤ m
    · have hne62 := HI.out k hks hk1 hkm
      go_wp2
      go_round
      case rel => exact ⟨k + 1, by omega, by omega, by go_num⟩
      case measure => simp [intOf]; omega
    · have hke : k = m + 1 := by omega
      subst hke
      go_wp2
      go_ret
      exact ⟨rfl, rfl⟩

/-- 'name' at '<inner>rest'. -/
theorem name_angle (b : Nat) (inner rest : List UInt8) (hin : ∀ c ∈ inner, c ≠ 62) (w : World) (h : At w b (60 :: (inner ++ 62 :: rest))) :
    Calls Ybad.prog 10 #[.pointer (some ⟨b, 0, none⟩)] w fun e w' => e = .returned (.string (strB inner)) ∧ w' = w.setCell ⟨b, 0, none⟩ (.string (strB rest)) := by
  have hsz : (strB (60 :: (inner ++ 62 :: rest))).size = inner.length + rest.length + 2 := by rw [strB_size]; simp; omega
  have hs := h.small
  simp at hs
  refine (name_angle_raw b _ inner.length w h.text h.good h.free (by omega) (by omega) ?_ ?_ ?_).mono ?_
  · rw [strB_head]; rfl
  · intro k hk h1 h2
    rw [strB_get _ k hk (by simp; omega), beq_eq_false_iff_ne]
    obtain ⟨j, rfl⟩ : ∃ j, k = j + 1 := ⟨k - 1, by omega⟩
    rw [List.getElem_cons_succ, List.getElem_append_left (by omega)]
    intro e
    exact hin _ (List.getElem_mem (by omega : j < inner.length)) (UInt8.toNat_inj.1 (by have : (62 : UInt8).toNat = 62 := rfl; omega))
  · rw [strB_get _ _ (by omega) (by simp), List.getElem_cons_succ, List.getElem_append_right (by omega)]
    simp
  · rintro e w' ⟨rfl, rfl⟩
    rw [strB_drop _ _ _ (strB_size _), strB_take]
    simp

def stopB (c : UInt8) : Bool := digB c || c == 44 || c == 43 || c == 45

theorem go_on {c : UInt8} (h : stopB c = false) : digB c = false ∧ ((c.toNat : Int) != 44) = true ∧ ((c.toNat : Int) != 43) = true ∧ ((c.toNat : Int) != 45) = true := by
  unfold stopB at h
  simp only [Bool.or_eq_false_iff, beq_eq_false_iff_ne] at h
  obtain ⟨⟨⟨h1, h2⟩, h3⟩, h4⟩ := h
  refine ⟨h1, ?_, ?_, ?_⟩ <;> rw [bne_iff_ne] <;> intro e
  · exact h2 (UInt8.toNat_inj.1 (by have : (44 : UInt8).toNat = 44 := rfl; omega))
  · exact h3 (UInt8.toNat_inj.1 (by have : (43 : UInt8).toNat = 43 := rfl; omega))
  · exact h4 (UInt8.toNat_inj.1 (by have : (45 : UInt8).toNat = 45 := rfl; omega))

theorem go_stop {c : UInt8} (h : stopB c = true) : digB c = true ∨ (digB c = false ∧ ((c.toNat : Int) != 44) = false) ∨ (digB c = false ∧ ((c.toNat : Int) != 44) = true ∧ ((c.toNat : Int) != 43) = false) ∨
    (digB c = false ∧ ((c.toNat : Int) != 44) = true ∧ ((c.toNat : Int) != 43) = true ∧ ((c.toNat : Int) != 45) = false) := by
  unfold stopB at h
  simp only [Bool.or_eq_true, beq_iff_eq] at h
  rcases h with ((h | h) | h) | h
  · exact .inl h
  · subst h; exact .inr (.inl ⟨rfl, rfl⟩)
  · subst h; exact .inr (.inr (.inl ⟨rfl, rfl, rfl⟩))
  · subst h; exact .inr (.inr (.inr ⟨rfl, rfl, rfl, rfl⟩))

set_option maxHeartbeats 1000000 in
theorem name_plain_raw (b : Nat) (s : ByteArray) (m : Nat) (w : World)
    (h0 : w.cell? ⟨b, 0, none⟩ = some (.string s)) (h1 : w.cell? ⟨b, 1, none⟩ = some (.bool false)) (hf : w.frozen? ⟨b, 0, none⟩ = false) (hm : s.size ≤ 1000000)
    (hm3 : 3 ≤ m) (hsz : m ≤ s.size) (hlt : ((s[0].toNat : Int) == 60) = false) (hin : ∀ k (h : k < s.size), k < m → stopB s[k] = false) (hgt : ∀ h : m < s.size, stopB (s[m]'h) = true) :
    Calls Ybad.prog 10 #[.pointer (some ⟨b, 0, none⟩)] w fun e w' => e = .returned (.string (s.extract 0 m)) ∧ w' = w.setCell ⟨b, 0, none⟩ (.string (s.extract m s.size)) := by
  have hne : s.toList.isEmpty = false := nonempty (by omega)
  have hp : 0 < s.size := by omega
  have HI := hide hin
  have HG := hide hgt
  clear hin hgt
  go_enter Ybad.func10, Ybad.ntmps10
  go_wp2
  go_loop [5] (fun i => ∃ k : Nat, k ≤ m ∧ i = .int .i64 k) (fun i => m - (intOf i).toNat)
  case atStart => exact ⟨0, by omega, rfl⟩
  case round =>
    obtain ⟨k, hk2, rfl⟩ := hrel
    by_cases hkm : k < m
    · have hks : k < s.size := by omega
      obtain ⟨g1, g2, g3, g4⟩ := go_on (HI.out k hks hkm)
      go_wp2_with (go_at_call 15; refine (digit_any _ _).mono ?_; rintro e w' ⟨rfl, rfl⟩)
      go_round
      case rel => exact ⟨k + 1, by omega, by go_num⟩
      case measure => simp [intOf]; omega
    · have hke : k = m := by omega
      subst hke
      by_cases hks : k < s.size
      · rcases go_stop (HG.out hks) with g1 | ⟨g1, g2⟩ | ⟨g1, g2, g3⟩ | ⟨g1, g2, g3, g4⟩
        all_goals
          go_wp2_with (go_at_call 15; refine (digit_any _ _).mono ?_; rintro e w' ⟨rfl, rfl⟩)
          go_ret
          exact ⟨rfl, rfl⟩
      · go_wp2
        go_ret
        exact ⟨rfl, rfl⟩

/-- 'name' at three or more bytes at which it does not stop, and behind them one at which it stops, or nothing. -/
theorem name_plain (b : Nat) (nm rest : List UInt8) (h3 : 3 ≤ nm.length) (hin : ∀ c ∈ nm, stopB c = false ∧ c ≠ 60) (hr : ∀ c, rest.head? = some c → stopB c = true) (w : World) (h : At w b (nm ++ rest)) :
    Calls Ybad.prog 10 #[.pointer (some ⟨b, 0, none⟩)] w fun e w' => e = .returned (.string (strB nm)) ∧ w' = w.setCell ⟨b, 0, none⟩ (.string (strB rest)) := by
  have hsz : (strB (nm ++ rest)).size = nm.length + rest.length := by rw [strB_size, List.length_append]
  have hs := h.small
  rw [List.length_append] at hs
  refine (name_plain_raw b _ nm.length w h.text h.good h.free (by omega) h3 (by omega) ?_ ?_ ?_).mono ?_
  · rw [strB_get _ _ (by omega) (by rw [List.length_append]; omega), List.getElem_append_left (by omega), beq_eq_false_iff_ne]
    intro e
    exact (hin _ (List.getElem_mem (by omega : 0 < nm.length))).2 (UInt8.toNat_inj.1 (by have : (60 : UInt8).toNat = 60 := rfl; omega))
  · intro k hk h1
    rw [strB_get _ _ hk (by rw [List.length_append]; omega), List.getElem_append_left (by omega)]
    exact (hin _ (List.getElem_mem h1)).1
  · intro hk
    rw [strB_get _ _ hk (by rw [List.length_append]; omega), List.getElem_append_right (Nat.le_refl _)]
    apply hr
    simp only [Nat.sub_self]
    cases rest with
    | nil => rw [hsz] at hk; exact absurd hk (by simp)
    | cons c r => rfl
  · rintro e w' ⟨rfl, rfl⟩
    rw [strB_drop _ _ _ (strB_size _), strB_take, List.drop_left, List.take_left]
    exact ⟨rfl, rfl⟩
end Go.Proofs.YbulkbdvcDoor.W
