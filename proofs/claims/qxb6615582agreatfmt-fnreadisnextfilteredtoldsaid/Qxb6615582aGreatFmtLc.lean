import Derived.Test.Qxb6615582aGreatFmtZr
import Derived.Test.Qxb6615582aGreatFmtCl
namespace Go.Proofs.Qxb6615582aGreatFmt
open Go.RowKit

/-- An error's parts are equal to themselves. -/
theorem eq32 (b0 b1 b2 : Bool) (l : Int) (c : ByteArray) (b3 b4 b5 : Bool) (w : World) :
    Sem.run Tryz.prog (binOp .eql 32 (.agg #[.bool b0, .bool b1, .bool b2, .int .i64 l, .string c, .bool b3, .bool b4, .bool b5]) (.agg #[.bool b0, .bool b1, .bool b2, .int .i64 l, .string c, .bool b3, .bool b4, .bool b5])) w = .ok (.bool true) w := by
  go_simp
theorem ne32 (b0 b1 b2 : Bool) (l : Int) (c : ByteArray) (b3 b4 b5 : Bool) (w : World) :
    Sem.run Tryz.prog (binOp .neq 32 (.agg #[.bool b0, .bool b1, .bool b2, .int .i64 l, .string c, .bool b3, .bool b4, .bool b5]) (.agg #[.bool b0, .bool b1, .bool b2, .int .i64 l, .string c, .bool b3, .bool b4, .bool b5])) w = .ok (.bool false) w := by
  go_simp
end Go.Proofs.Qxb6615582aGreatFmt
