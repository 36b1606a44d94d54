import Derived.Test.YbulkbdvcDoorProg
import Derived.Test.YbulkbdvcDoorPlain
import Derived.Test.YbulkbdvcDoorBytes
import Derived.WalkKit
import Derived.WalkSpells
namespace Go.Proofs.YbulkbdvcDoor.W
open Go.RowKit
open Go.Proofs.YbulkbdvcDoor.P Go.Proofs.YbulkbdvcDoor.B

/-- 'isDigit'. -/
theorem digit_any (c : UInt8) (w : World) :
    Calls Ybad.prog 15 #[.int .u8 (c.toNat : Int)] w fun e w' => e = .returned (.bool (digB c)) ∧ w' = w := by
  have hb : c.toNat < 256 := c.toNat_lt
  unfold digB
  by_cases h1 : 48 ≤ c.toNat
  · have h1' : (48 : Int) ≤ (c.toNat : Int) := by omega
    by_cases h2 : c.toNat ≤ 57
    · rw [decide_eq_true ⟨h1, h2⟩]
      have h2' : (c.toNat : Int) ≤ 57 := by omega
      go_enter Ybad.func15, Ybad.ntmps15
      go_wp2
      go_ret
      exact ⟨rfl, rfl⟩
    · rw [decide_eq_false (by omega)]
      have h2' : ¬ (c.toNat : Int) ≤ 57 := by omega
      go_enter Ybad.func15, Ybad.ntmps15
      go_wp2
      go_ret
      exact ⟨rfl, rfl⟩
  · rw [decide_eq_false (by omega)]
    have h1' : ¬ (48 : Int) ≤ (c.toNat : Int) := by omega
    go_enter Ybad.func15, Ybad.ntmps15
    go_wp2
    go_ret
    exact ⟨rfl, rfl⟩

/-- What the parser's block holds: the text that is left, and no failure so far. -/
structure At (w : World) (b : Nat) (l : List UInt8) : Prop where
  text : w.cell? ⟨b, 0, none⟩ = some (.string (strB l))
  good : w.cell? ⟨b, 1, none⟩ = some (.bool false)
  free : w.frozen? ⟨b, 0, none⟩ = false
  small : l.length ≤ 1000000

theorem nonempty {s : ByteArray} (hp : 0 < s.size) : s.toList.isEmpty = false := by
  rw [ByteArray.toList_eq, List.isEmpty_eq_false_iff]
  intro h
  have := congrArg List.length h
  rw [Array.length_toList] at this
  exact absurd (show s.size = 0 from this) (by omega)

theorem skip_raw (b : Nat) (c : Int) (s : ByteArray) (w : World) (h0 : w.cell? ⟨b, 0, none⟩ = some (.string s)) (h1 : w.cell? ⟨b, 1, none⟩ = some (.bool false)) (hf : w.frozen? ⟨b, 0, none⟩ = false)
    (hp : 0 < s.size) (hm : s.size ≤ 1000000) (hc : (((s[0]'hp).toNat : Int) != c) = false) :
    Calls Ybad.prog 12 #[.pointer (some ⟨b, 0, none⟩), .int .u8 c] w fun e w' => e = .returned (.bool true) ∧ w' = w.setCell ⟨b, 0, none⟩ (.string (s.extract 1 s.size)) := by
  have hne := nonempty hp
  go_enter Ybad.func12, Ybad.ntmps12
  go_wp2
  go_ret
  exact ⟨rfl, rfl⟩

theorem skip_raw_no (b : Nat) (c : Int) (s : ByteArray) (w : World) (h0 : w.cell? ⟨b, 0, none⟩ = some (.string s)) (h1 : w.cell? ⟨b, 1, none⟩ = some (.bool false))
    (hp : 0 < s.size) (hc : (((s[0]'hp).toNat : Int) != c) = true) :
    Calls Ybad.prog 12 #[.pointer (some ⟨b, 0, none⟩), .int .u8 c] w fun e w' => e = .returned (.bool false) ∧ w' = w := by
  have hne := nonempty hp
  go_enter Ybad.func12, Ybad.ntmps12
  go_wp2
  go_ret
  exact ⟨rfl, rfl⟩

theorem skip_raw_end (b : Nat) (c : Int) (s : ByteArray) (w : World) (h0 : w.cell? ⟨b, 0, none⟩ = some (.string s)) (h1 : w.cell? ⟨b, 1, none⟩ = some (.bool false))
    (hne : s.toList.isEmpty = true) :
    Calls Ybad.prog 12 #[.pointer (some ⟨b, 0, none⟩), .int .u8 c] w fun e w' => e = .returned (.bool false) ∧ w' = w := by
  go_enter Ybad.func12, Ybad.ntmps12
  go_wp2
  go_ret
  exact ⟨rfl, rfl⟩

theorem strB_head (c : UInt8) (rest : List UInt8) (h : 0 < (strB (c :: rest)).size) : (strB (c :: rest))[0]'h = c := rfl
theorem strB_size_cons (c : UInt8) (rest : List UInt8) : (strB (c :: rest)).size = rest.length + 1 := by rw [strB_size]; rfl

/-- 'skip' where c comes next. -/
theorem skip_hit (b : Nat) (c : UInt8) (rest : List UInt8) (k : Int) (hk : k = (c.toNat : Int)) (w : World) (h : At w b (c :: rest)) :
    Calls Ybad.prog 12 #[.pointer (some ⟨b, 0, none⟩), .int .u8 k] w fun e w' => e = .returned (.bool true) ∧ w' = w.setCell ⟨b, 0, none⟩ (.string (strB rest)) := by
  have hsz := strB_size_cons c rest
  have hs := h.small
  simp at hs
  refine (skip_raw b _ _ w h.text h.good h.free (by omega) (by omega) ?_).mono ?_
  · rw [strB_head, hk]; simp
  · rintro e w' ⟨rfl, rfl⟩
    rw [strB_drop _ _ _ (strB_size _)]
    exact ⟨rfl, rfl⟩

/-- 'skip' where c does not come next. -/
theorem skip_miss (b : Nat) (c : UInt8) (l : List UInt8) (hl : NoC c l) (k : Int) (hk : k = (c.toNat : Int)) (w : World) (h : At w b l) :
    Calls Ybad.prog 12 #[.pointer (some ⟨b, 0, none⟩), .int .u8 k] w fun e w' => e = .returned (.bool false) ∧ w' = w := by
  cases l with
  | nil => exact skip_raw_end b k _ w h.text h.good (by rw [ByteArray.toList_eq]; rfl)
  | cons d r =>
    have hsz := strB_size_cons d r
    refine skip_raw_no b k _ w h.text h.good (by omega) ?_
    rw [strB_head, hk, bne_iff_ne]
    intro e
    exact hl d rfl (UInt8.toNat_inj.1 (by omega))

/-- 'expect' where c comes next. -/
theorem expect_hit (b : Nat) (c : UInt8) (rest : List UInt8) (k : Int) (hk : k = (c.toNat : Int)) (w : World) (h : At w b (c :: rest)) :
    Calls Ybad.prog 14 #[.pointer (some ⟨b, 0, none⟩), .int .u8 k] w fun e w' => e = .returned (.tuple #[]) ∧ w' = w.setCell ⟨b, 0, none⟩ (.string (strB rest)) := by
  have HK := hide hk
  clear hk
  go_enter Ybad.func14, Ybad.ntmps14
  go_wp2_with fail
  refine (skip_hit b c rest k HK.out _ h).mono ?_
  rintro e w' ⟨rfl, rfl⟩
  go_wp2
  go_end0
  exact ⟨rfl, rfl⟩

theorem At.set {w : World} {b : Nat} {l : List UInt8} (h : At w b l) (r : List UInt8) (hr : r.length ≤ 1000000) : At (w.setCell ⟨b, 0, none⟩ (.string (strB r))) b r := by
  obtain ⟨h0, h1, hf, hs⟩ := h
  refine ⟨?_, ?_, ?_, hr⟩
  · rw [World.cell?_setCell_same _ _ _ h0]
  · rw [World.cell?_setCell_other _ _ _ _ (by simp), h1]
  · rw [World.frozen?_setCell, hf]

end Go.Proofs.YbulkbdvcDoor.W
