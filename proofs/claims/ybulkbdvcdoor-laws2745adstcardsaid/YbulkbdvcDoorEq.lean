/-
  Two rules that hold the same are equal: Go's '==' on the struct 'rule'.
-/
import Derived.Test.YbulkbdvcDoorProg
import Derived.WalkKit
namespace Go.Proofs.YbulkbdvcDoor.B
open Go.RowKit
set_option maxRecDepth 100000
theorem eq34 (d : Nat) (w : World) (a0 : ByteArray) (i1 i2 i3 i4 : Int) :
    (Op.equalIn (d + 2) 34 (.agg #[.string a0, .int .i64 i1, .int .i64 i2, .int .i64 i3, .int .i64 i4]) (.agg #[.string a0, .int .i64 i1, .int .i64 i2, .int .i64 i3, .int .i64 i4])).run Ybad.prog w = .ok true w := by
  rw [run_equalIn_struct w (d + 1) 34 _ _ (by kernel_rfl) (by kernel_rfl)]
  go_simp

theorem eq31 (d : Nat) (w : World) (a0 : ByteArray) (i1 : Int) (b2 : Bool) :
    (Op.equalIn (d + 2) 31 (.agg #[.string a0, .int .i64 i1, .bool b2]) (.agg #[.string a0, .int .i64 i1, .bool b2])).run Ybad.prog w = .ok true w := by
  rw [run_equalIn_struct w (d + 1) 31 _ _ (by kernel_rfl) (by kernel_rfl)]
  go_simp

theorem eq36 (w : World) (a0 a3 a7 a12 : ByteArray) (i1 i4 i8 i9 i10 i11 i13 i14 i15 i16 : Int) (b2 b5 b6 : Bool) :
    (binOp .eql 36 (.agg #[.string a0, .int .i64 i1, .bool b2, .string a3, .int .i64 i4, .bool b5, .bool b6, .string a7, .int .i64 i8, .int .i64 i9, .int .i64 i10, .int .i64 i11, .string a12, .int .i64 i13, .int .i64 i14, .int .i64 i15, .int .i64 i16])
      (.agg #[.string a0, .int .i64 i1, .bool b2, .string a3, .int .i64 i4, .bool b5, .bool b6, .string a7, .int .i64 i8, .int .i64 i9, .int .i64 i10, .int .i64 i11, .string a12, .int .i64 i13, .int .i64 i14, .int .i64 i15, .int .i64 i16])).run Ybad.prog w = .ok (.bool true) w := by
  have h31 := fun d w a0 i1 b2 => eq31 d w a0 i1 b2
  have h34 := fun d w a0 i1 i2 i3 i4 => eq34 d w a0 i1 i2 i3 i4
  rw [run_eql_struct, run_equalIn_struct w 9999 36 _ _ (by kernel_rfl) (by kernel_rfl)]
  go_simp
end Go.Proofs.YbulkbdvcDoor.B
