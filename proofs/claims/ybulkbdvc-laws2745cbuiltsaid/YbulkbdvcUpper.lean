import Derived.Test.YbulkbdvcWalks
import Derived.Test.YbulkbdvcBytes
namespace Go.Proofs.Ybulkbdvc.W
open Go.RowKit
open Go.Proofs.Ybulkbdvc.P Go.Proofs.Ybulkbdvc.B

/-- What the new row holds behind k rounds. -/
def part (s : List UInt8) (k : Nat) : List UInt8 := (s.map upB).take k ++ List.replicate (s.length - k) 0

theorem part_length (s : List UInt8) (k : Nat) (h : k ≤ s.length) : (part s k).length = s.length := by
  simp [part]; omega
theorem part_zero (s : List UInt8) : bytesV (part s 0) = List.replicate s.length (.int .u8 0) := by
  simp [part, bytesV]
theorem part_all (s : List UInt8) : part s s.length = s.map upB := by
  simp [part, List.take_of_length_le]
theorem part_step (s : List UInt8) (k : Nat) (h : k < s.length) : (part s k).set k (upB s[k]) = part s (k + 1) := by
  apply List.ext_getElem
  · simp [part]; omega
  · intro i h1 h2
    simp [part] at h1 h2
    by_cases hi : i = k
    · subst hi
      rw [List.getElem_set_self]
      simp only [part]
      rw [List.getElem_append_left (by simp; omega)]
      simp
    · rw [List.getElem_set_ne (by omega)]
      simp only [part]
      by_cases hik : i < k
      · rw [List.getElem_append_left (by simp; omega), List.getElem_append_left (by simp; omega)]
        simp
      · rw [List.getElem_append_right (by simp; omega), List.getElem_append_right (by simp; omega)]
        simp

theorem hide {p : Prop} (h : p) : Hid p := h

theorem info5 : (Yba.prog.info? 5).map (fun i => (i.zero, i.size, i.bytes)) = some (some (.int .u8 0), 1, 1) := by kernel_rfl

theorem stepped {w wr : World} {s : List UInt8} {k : Nat} (hk : k < s.length)
    (ho : wr.ownsRow w.heap.size 5 1 (.slice (some ⟨w.heap.size, 0, none⟩) s.length s.length) s.length (bytesV (part s k))) (hb : Below w.heap.size w wr) (hz : w.heap.size < wr.heap.size) :
    (wr.setCell ⟨w.heap.size, k, none⟩ (.int .u8 ((upB s[k]).toNat : Int))).ownsRow w.heap.size 5 1 (.slice (some ⟨w.heap.size, 0, none⟩) s.length s.length) s.length (bytesV (part s (k + 1))) ∧
    Below w.heap.size w (wr.setCell ⟨w.heap.size, k, none⟩ (.int .u8 ((upB s[k]).toNat : Int))) ∧ w.heap.size < (wr.setCell ⟨w.heap.size, k, none⟩ (.int .u8 ((upB s[k]).toNat : Int))).heap.size := by
  refine ⟨?_, hb.setCell (Nat.le_refl _) _, by simpa using hz⟩
  have := (ho.stored k (.int .u8 ((upB s[k]).toNat : Int))).1
  rw [bytesV_set, part_step s k hk] at this
  exact this

set_option maxHeartbeats 400000 in
theorem upper_any (s : ByteArray) (hs : s.size ≤ 4096) (w : World) :
    Calls Yba.prog 7 #[.string s] w fun e w' => e = .returned (.slice (some ⟨w.heap.size, 0, none⟩) s.size s.size) ∧
      w'.ownsRow w.heap.size 5 1 (.slice (some ⟨w.heap.size, 0, none⟩) s.size s.size) s.size (bytesV (s.data.toList.map upB)) ∧ Below w.heap.size w w' ∧ w.heap.size < w'.heap.size := by
  obtain ⟨i0, hi, hz0, hz1, hz2⟩ := info_parts info5
  have hz2' : i0.bytes ≤ 1 := by omega
  go_enter Yba.func7, Yba.ntmps7
  go_wp2_with (at_make; refine wpList_make_full _ rfl _ _ 25 rfl w.heap.size 5 i0 (.int .u8 0) 1 Yba.underlying25 hi hz0 hz1 .i64 .i64 _ _ s.size rfl rfl rfl rfl ?b2 ?b3 ?b4 ?_)
  case b2 => rw [hz2]; omega
  case b3 => unfold maxLen; omega
  case b4 => exact Nat.le_refl _
  intro w1 ho hg
  have ho1 : w1.ownsRow w.heap.size 5 1 (.slice (some ⟨w.heap.size, 0, none⟩) s.size s.size) s.size (bytesV (part s.data.toList 0)) := by
    rw [part_zero, show s.data.toList.length = s.size from Array.length_toList, ← toList_madeCells_one]
    exact ho
  have hb1 : Below w.heap.size w w1 := (Below.refl _ _).grown hg (Nat.le_refl _) (fun k h => by cases h)
  clear ho hg
  have hz : w.heap.size < w1.heap.size := by
    rcases ho1.2 with ⟨h, _⟩ | ⟨g, cap, cur, h, _, hh, _⟩
    · simp at h
    · simp only [Value.slice.injEq, Option.some.injEq, Addr.mk.injEq, and_true, true_and] at h
      obtain ⟨rfl, _⟩ := h
      exact (Array.getElem?_eq_some_iff.1 hh).1
  go_wp2
  go_loopw [4] (fun i wr => ∃ k : Nat, k ≤ s.size ∧ i = .int .i64 k ∧ wr.ownsRow w.heap.size 5 1 (.slice (some ⟨w.heap.size, 0, none⟩) s.size s.size) s.size (bytesV (part s.data.toList k)) ∧ Below w.heap.size w wr ∧ w.heap.size < wr.heap.size) (fun i _ => s.size - (intOf i).toNat)
  case atStart => exact ⟨0, Nat.zero_le _, rfl, ho1, hb1, hz⟩
  case round =>
    clear ho1 hb1 hz
    obtain ⟨k, hk, rfl, ho, hb, hz⟩ := hrel
    by_cases hlt : k < s.size
    · have hc : s[k].toNat < 256 := s[k].toNat_lt
      have hl : (part s.data.toList k).length = s.size := part_length s.data.toList k (by simpa using hk)
      have hcell := own_cell ho k (by omega) hlt
      have hfz := ho.frozenAt k
      have R := stepped (s := s.data.toList) (k := k) (by simpa using hlt) ho hb hz
      by_cases hlow : 97 ≤ s[k].toNat ∧ s[k].toNat ≤ 122
      · have hl1 : isLow s[k] = true := decide_eq_true hlow
        obtain ⟨hlo, hhi⟩ := hlow
        have hup := upB_yes s[k] hlo hhi
        have hlo' : (97 : Int) ≤ (s[k].toNat : Int) := by omega
        have hhi' : (s[k].toNat : Int) ≤ 122 := by omega
        rw [getB s k hlt, hup] at R
        have HR := hide R
        clear hup R ho hb
        go_wp2_with fail
        refine (cup_any _ _).mono ?_
        rintro e w' ⟨rfl, rfl⟩
        go_wp2
        go_roundw
        case rel => exact ⟨k + 1, by omega, by go_num, HR.out⟩
        case measure => simp [intOf]; omega
      · have hl1 : isLow s[k] = false := decide_eq_false hlow
        have hup := upB_no s[k] hlow
        rw [getB s k hlt, hup] at R
        have HR := hide R
        clear hlow hup R ho hb
        go_wp2_with fail
        refine (cup_any _ _).mono ?_
        rintro e w' ⟨rfl, rfl⟩
        go_wp2
        go_roundw
        case rel => exact ⟨k + 1, by omega, by go_num, HR.out⟩
        case measure => simp [intOf]; omega
    · have hks : k = s.data.toList.length := by simp; omega
      have HO : Hid (wr.ownsRow w.heap.size 5 1 (.slice (some ⟨w.heap.size, 0, none⟩) s.size s.size) s.size (bytesV (s.data.toList.map upB))) := by
        rw [hks, part_all] at ho
        exact ho
      clear ho hks
      go_wp2
      go_ret
      exact ⟨rfl, HO.out, hb, hz⟩
end Go.Proofs.Ybulkbdvc.W
