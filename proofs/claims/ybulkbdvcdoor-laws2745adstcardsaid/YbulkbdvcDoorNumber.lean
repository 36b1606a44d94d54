import Derived.Test.YbulkbdvcDoorParse
namespace Go.Proofs.YbulkbdvcDoor.W
open Go.RowKit
open Go.Proofs.YbulkbdvcDoor.P Go.Proofs.YbulkbdvcDoor.B

theorem val_step (l : List UInt8) (k : Nat) (h : k < l.length) : val (l.take (k + 1)) = val (l.take k) * 10 + (l[k].toNat - 48) := by
  rw [List.take_succ_eq_append_getElem h, val_snoc]

theorem ret_int {k : IntKind} {a b : Int} (h : a = b) : Ending.returned (.int k a) = .returned (.int k b) := by rw [h]

/-- 'number', over any text s whose first bytes are the digits l. -/
theorem number_raw (b : Nat) (s : ByteArray) (l : List UInt8) (n : Nat) (least most : Int) (hN : Num l n) (hlo : least ≤ n) (hhi : (n : Int) ≤ most) (hmm : most ≤ 1000) (w : World)
    (h0 : w.cell? ⟨b, 0, none⟩ = some (.string s)) (h1 : w.cell? ⟨b, 1, none⟩ = some (.bool false)) (hf : w.frozen? ⟨b, 0, none⟩ = false) (hm : s.size ≤ 1000000)
    (hsz : l.length ≤ s.size) (hb : ∀ k (h : k < l.length), s[k] = l[k]) (hend : ∀ h : l.length < s.size, digB (s[l.length]'h) = false) :
    Calls Ybad.prog 16 #[.pointer (some ⟨b, 0, none⟩), .int .i64 least, .int .i64 most] w fun e w' => e = .returned (.int .i64 (n : Int)) ∧ w' = w.setCell ⟨b, 0, none⟩ (.string (s.extract l.length s.size)) := by
  have hpos := hN.pos
  have hlen := hN.len
  have hv := hN.val
  have HV := hide hv
  have HB := hide hb
  clear hv hb
  go_enter Ybad.func16, Ybad.ntmps16
  go_wp2
  go_loop [7, 8] (fun x i => ∃ k : Nat, k ≤ l.length ∧ i = .int .i64 k ∧ x = .int .i64 (val (l.take k) : Nat)) (fun _ i => l.length - (intOf i).toNat)
  case atStart => exact ⟨0, Nat.zero_le _, rfl, rfl⟩
  case round =>
    obtain ⟨k, hk, rfl, rfl⟩ := hrel
    by_cases hlt : k < l.length
    · have hks : k < s.size := by omega
      have hd : digB s[k] = true := by rw [HB.out k hlt]; exact decide_eq_true (hN.dig _ (List.getElem_mem hlt))
      have hdl := hN.dig _ (List.getElem_mem hlt)
      have hd1 : (48 : Int) ≤ (s[k].toNat : Int) := by rw [HB.out k hlt]; omega
      have hd2 : (s[k].toNat : Int) ≤ 57 := by rw [HB.out k hlt]; omega
      have hst := val_step l k hlt
      have hle := val_take l (k + 1)
      have hle0 := val_take l k
      have hvv : val l = n := HV.out
      have hnext : (val (l.take k) : Int) * 10 + ((s[k].toNat : Int) - 48) ≤ most := by rw [HB.out k hlt]; omega
      have HS : Hid ((val (l.take (k + 1)) : Int) = (val (l.take k) : Int) * 10 + ((s[k].toNat : Int) - 48)) := by
        show _ = _
        rw [HB.out k hlt, hst]; omega
      have hvk : (val (l.take k) : Int) ≤ 1000 := by omega
      have hvk0 : (0 : Int) ≤ (val (l.take k) : Int) := by omega
      clear hst hend hvv hdl hle hle0
      generalize (val (l.take k) : Int) = x at *
      go_wp2_with (go_at_call 15; refine (digit_any _ _).mono ?_; rintro e w' ⟨rfl, rfl⟩)
      go_round
      case rel => exact ⟨k + 1, by omega, by go_num, by rw [HS.out]⟩
      case measure => simp [intOf]; omega
    · have hkl : k = l.length := by omega
      subst hkl
      have hvv : val (l.take l.length) = n := by rw [List.take_length]; exact HV.out
      rw [hvv]
      clear hvv
      have hlo' : ¬ (n : Int) < least := by omega
      have hz : ((l.length : Int) == 0) = false := by rw [beq_eq_false_iff_ne]; omega
      by_cases hmore : l.length < s.size
      · have hd := hend hmore
        clear hend
        go_wp2_with (go_at_call 15; refine (digit_any _ _).mono ?_; rintro e w' ⟨rfl, rfl⟩)
        go_ret
        exact ⟨rfl, rfl⟩
      · clear hend
        go_wp2
        go_ret
        exact ⟨rfl, rfl⟩

theorem number_ok (b : Nat) (l rest : List UInt8) (n : Nat) (least most : Int) (hN : Num l n) (hlo : least ≤ n) (hhi : (n : Int) ≤ most) (hmm : most ≤ 1000) (hr : NoDig rest) (w : World) (h : At w b (l ++ rest)) :
    Calls Ybad.prog 16 #[.pointer (some ⟨b, 0, none⟩), .int .i64 least, .int .i64 most] w fun e w' => e = .returned (.int .i64 (n : Int)) ∧ w' = w.setCell ⟨b, 0, none⟩ (.string (strB rest)) := by
  have hsz : (strB (l ++ rest)).size = l.length + rest.length := by rw [strB_size, List.length_append]
  have hs := h.small
  rw [List.length_append] at hs
  refine (number_raw b _ l n least most hN hlo hhi hmm w h.text h.good h.free (by omega) (by omega) ?_ ?_).mono ?_
  · intro k hk
    rw [strB_get (l ++ rest) k (by omega) (by rw [List.length_append]; omega), List.getElem_append_left hk]
  · intro hk
    rw [strB_get (l ++ rest) l.length hk (by rw [List.length_append]; omega), List.getElem_append_right (Nat.le_refl _)]
    apply hr
    simp only [Nat.sub_self]
    cases rest with
    | nil => rw [hsz] at hk; exact absurd hk (by simp)
    | cons c r => rfl
  · rintro e w' ⟨rfl, rfl⟩
    rw [strB_drop _ _ _ (strB_size _), List.drop_left]
    exact ⟨rfl, rfl⟩
end Go.Proofs.YbulkbdvcDoor.W
