import Derived.Test.Qxb6615582aGreatFmtBase
namespace Go.Proofs.Qxb6615582aGreatFmt
open Go.RowKit

/-- The parts of an error. -/
def pv (isNil isEOF isFE : Bool) (line : Int) (col : ByteArray) (errNil q bq : Bool) : Value := .agg #[.bool isNil, .bool isEOF, .bool isFE, .int .i64 line, .string col, .bool errNil, .bool q, .bool bq]
set_option maxRecDepth 100000 in
set_option maxHeartbeats 1000000 in
/-- zzFieldErr, where it holds. -/
theorem fieldErr_c (w : World) (l : Int) (c : ByteArray) (oc : Int) (q bq : Bool) (hq : (oc == 2) = q) (hb : (oc == 3) = bq) :
    Calls Tryz.prog 19 #[pv false false true l c false q bq, .int .i64 l, .string c, .int .i64 oc] w fun e w' => e = .returned (.bool true) ∧ Kp (fun _ => False) w w' := by
  unfold pv
  go_enter Tryz.func19, Tryz.ntmps19
  go_wp2
  go_ret
  exact ⟨rfl, (Kp.refl _ w).alloc _⟩
end Go.Proofs.Qxb6615582aGreatFmt
