/-
  LawS1325ASave: A KEY IS EQUAL TO ITSELF.
-/
import Derived.Test.YbulkaakmSaveS
import Derived.Laws.StructEq
namespace Go.Proofs.Ybulkaakm.Save
open Go.RowKit
set_option linter.unusedSimpArgs false

/-- A key's cells. -/
abbrev key13 (b0 b1 b2 b3 b4 : Bool) (i0 i1 i2 i3 i4 i5 i6 i7 : Int) : Array Value :=
  #[.bool b0, .bool b1, .bool b2, .bool b3, .bool b4, .int .i64 i0, .int .i64 i1, .int .i64 i2, .int .i64 i3, .int .i64 i4, .int .i64 i5, .int .i64 i6, .int .i64 i7]

theorem eql_self (b0 b1 b2 b3 b4 : Bool) (i0 i1 i2 i3 i4 i5 i6 i7 : Int) (w : World) :
    (binOp .eql 31 (.agg (key13 b0 b1 b2 b3 b4 i0 i1 i2 i3 i4 i5 i6 i7)) (.agg (key13 b0 b1 b2 b3 b4 i0 i1 i2 i3 i4 i5 i6 i7))).run Yba.prog w = .ok (.bool true) w := by
  simp [go_sem]

theorem neq_self (b0 b1 b2 b3 b4 : Bool) (i0 i1 i2 i3 i4 i5 i6 i7 : Int) (w : World) :
    (binOp .neq 31 (.agg (key13 b0 b1 b2 b3 b4 i0 i1 i2 i3 i4 i5 i6 i7)) (.agg (key13 b0 b1 b2 b3 b4 i0 i1 i2 i3 i4 i5 i6 i7))).run Yba.prog w = .ok (.bool false) w := by
  simp [go_sem]

end Go.Proofs.Ybulkaakm.Save
