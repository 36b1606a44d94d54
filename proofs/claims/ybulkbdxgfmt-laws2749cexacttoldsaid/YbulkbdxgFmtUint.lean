/-
  internal/strconv.ParseUint at a text of one byte, base 2, 4, 8 or 16, 8 bits.
-/
import Derived.Test.YbulkbdxgFmtWith
import Derived.Lib.ConvBytes
import Derived.Handy
namespace Go.Proofs.YbulkbdxgFmt.W
open Go.RowKit
open Go.Proofs.YbulkbdxgFmt.P

def dval (c : Nat) : Nat := if 48 ≤ c ∧ c ≤ 57 then c - 48 else if 97 ≤ c ∧ c ≤ 122 then c - 87 else if 65 ≤ c ∧ c ≤ 90 then c - 55 else 99

theorem nonempty {s : ByteArray} (hp : 0 < s.size) : s.toList.isEmpty = false := by
  rw [ByteArray.toList_eq, List.isEmpty_eq_false_iff]
  intro h
  have := congrArg List.length h
  rw [Array.length_toList] at this
  exact absurd (show s.size = 0 from this) (by omega)

/-- The text's bytes as a slice. -/
theorem conv_one (s : ByteArray) (c : Nat) (hsz : s.size = 1) (h0 : (s.data.toList.getD 0 0).toNat = c) (w : World) :
    ∃ W1 cap, Sem.run Ybaf.prog (convert 9 38 (.string s)) w = .ok (.slice (some ⟨w.heap.size, 0, none⟩) 1 cap) W1 ∧ W1.cell? ⟨w.heap.size, 0, none⟩ = some (.int .u8 c) ∧ Hid (Below w.heap.size w W1) := by
  refine ⟨_, _, (Lib.run_convert_string_bytes w 9 38 5 s Ybaf.underlying9 Ybaf.underlying38 Ybaf.underlying5).trans (by rw [hsz]), ?_, ?_⟩
  · rw [Lib.bytesWorld_cell w 5 s 0 (by omega), h0]
  · exact ⟨rfl, rfl, rfl, by rw [Lib.bytesWorld_size]; omega, fun k hk => Lib.bytesWorld_at_old w 5 s k hk⟩

set_option maxRecDepth 100000 in
set_option maxHeartbeats 1000000 in
theorem uint_digit (s : ByteArray) (c : Nat) (B d : Int) (hB : IsBase d B) (hsz : s.size = 1) (h0 : (s.data.toList.getD 0 0).toNat = c) (h1 : 48 ≤ c) (h2 : c ≤ 57) (hlt : (c : Int) - 48 < B) (w : World) :
    Calls Ybaf.prog 15 #[.string s, .int .i64 B, .int .i64 8] w fun e w' => e = .returned (.tuple #[.int .u64 (c - 48 : Int), .nilIface]) ∧ Below w.heap.size w w' := by
  obtain ⟨W1, cap, hcv, hcell, HB⟩ := conv_one s c hsz h0 w
  have hne := nonempty (s := s) (by omega)
  clear h0
  rcases hB with ⟨rfl, rfl⟩ | ⟨rfl, rfl⟩ | ⟨rfl, rfl⟩ | ⟨rfl, rfl⟩
  all_goals
    go_enter Ybaf.func15, Ybaf.ntmps15
    go_wp2
    go_rounds 2
    go_wp2
    go_ret2
    exact ⟨rfl, HB.out⟩
end Go.Proofs.YbulkbdxgFmt.W
