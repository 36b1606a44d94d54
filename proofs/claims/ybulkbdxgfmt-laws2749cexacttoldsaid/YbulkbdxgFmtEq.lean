/-
  Two ids that hold the same are equal.
-/
import Derived.Test.YbulkbdxgFmtProg
import Derived.WalkKit
import Derived.ChangeKeysEq
namespace Go.Proofs.YbulkbdxgFmt.W
open Go.RowKit
set_option maxRecDepth 100000
theorem i25 : (Ybaf.prog.info? 25).isSome = true := by kernel_rfl
theorem c25 : Ybaf.prog.cellsOf 25 = 1 := by kernel_rfl

theorem eq26 (d : Nat) (w : World) (a b c e : Int) :
    (Op.equalIn (d + 2) 26 (.agg #[.int .u64 a, .int .u64 b, .int .u64 c, .int .u64 e]) (.agg #[.int .u64 a, .int .u64 b, .int .u64 c, .int .u64 e])).run Ybaf.prog w = .ok true w := by
  obtain ⟨i, hi⟩ := Option.isSome_iff_exists.1 i25
  rw [Go.run_equalIn_array w (d + 1) _ _ Ybaf.underlying26 hi, c25]
  simp [List.range, List.range.loop, Op.eqItems]
  go_simp

theorem eq28 (w : World) (a b c e : Int) :
    (binOp .eql 28 (.agg #[.int .u64 a, .int .u64 b, .int .u64 c, .int .u64 e]) (.agg #[.int .u64 a, .int .u64 b, .int .u64 c, .int .u64 e])).run Ybaf.prog w = .ok (.bool true) w := by
  have h26 := fun d w a b c e => eq26 d w a b c e
  rw [run_eql_struct, run_equalIn_struct w 9999 28 _ _ (by kernel_rfl) (by kernel_rfl)]
  go_simp
end Go.Proofs.YbulkbdxgFmt.W
