import Derived.Test.Qxb6615582aGreatFmtBase
import Derived.Stop.CallBack
import Derived.Stop.IfaceNil
import GoSem.ClaimData
namespace Go.Proofs.Qxb6615582aGreatFmt
open Go.Extern.Stop Go.Stop Go.Extern Go.RowKit

/-! ### fmt's stopped functions: closed facts for the walk -/
theorem Tryz.call60 (args : Array Value) (w : World) : (callFunc 60 args).run Tryz.prog w = (FmtCalls.errorf #[9, 59] #[52] args).run Tryz.prog w :=
  run_callFunc_next Tryz.func60 (by kernel_rfl) (by kernel_rfl) (by kernel_rfl) args w
theorem Tryz.guard (name : String) (w : World) : (FmtStop.guard name).run Tryz.prog w = .ok () w := by kernel_rfl
theorem Tryz.nextTurns : Extern.next FmtCalls.turnsRow = some (FmtCalls.begun #[] #[]) := by kernel_rfl
theorem Tryz.nextReturned : Extern.next FmtCalls.returnedRow = some (FmtCalls.returned #[] #[]) := by kernel_rfl
theorem Tryz.fmt1 : FmtStop.printed? ⟨#[119, 97, 110, 116, 32, 116, 104, 101, 32, 104, 101, 97, 100, 101, 114, 32, 37, 113, 59, 32, 103, 111, 116, 32, 37, 113]⟩ 2 = some [(0, 113, false), (1, 113, false)] := by kernel_rfl
theorem Tryz.fmt1r (w : World) : (FmtDoors.printed ⟨#[119, 97, 110, 116, 32, 116, 104, 101, 32, 104, 101, 97, 100, 101, 114, 32, 37, 113, 59, 32, 103, 111, 116, 32, 37, 113]⟩ 2).run Tryz.prog w = .ok [(0, 113, false), (1, 113, false)] w := by kernel_rfl
theorem Tryz.name9 : Tryz.prog.typeName? 3 9 = some "string" := by kernel_rfl
def Tryz.shape9 : List UInt8 := [12, 6, 0, 0, 0, 0, 0, 0, 0, 115, 116, 114, 105, 110, 103]
theorem Tryz.act9_113w (name : String) (x : Value) (w : World) : (FmtCalls.act name true 113 false (.iface 9 x)).run Tryz.prog w = .ok (.closed true) w := by kernel_rfl
theorem Tryz.op9_113w (name : String) (x : ByteArray) (w : World) : (FmtStop.operand name true 113 false (.iface 9 (.string x))).run Tryz.prog w = .ok (Tryz.shape9, FmtStop.pack x.data.toList) w := by kernel_rfl
theorem Tryz.act9_113 (name : String) (x : Value) (w : World) : (FmtCalls.act name false 113 false (.iface 9 x)).run Tryz.prog w = .ok (.closed false) w := by kernel_rfl
theorem Tryz.op9_113 (name : String) (x : ByteArray) (w : World) : (FmtStop.operand name false 113 false (.iface 9 (.string x))).run Tryz.prog w = .ok (Tryz.shape9, FmtStop.pack x.data.toList) w := by kernel_rfl
theorem Tryz.strict9 (name : String) (x : ByteArray) (w : World) : (FmtStop.strict name (.iface 9 (.string x))).run Tryz.prog w = .ok (Tryz.shape9, FmtStop.pack x.data.toList) w := by kernel_rfl
theorem Tryz.str9 (w : World) : (typeStr 9).run Tryz.prog w = .ok "string" w := by kernel_rfl
theorem Tryz.ptr95 (w : World) : (FmtStop.ptrTo "errors.errorString").run Tryz.prog w = .ok 95 w := by kernel_rfl
theorem Tryz.elem95 (w : World) : (elemOf 95).run Tryz.prog w = .ok 97 w := by kernel_rfl
theorem Tryz.isError95 (w : World) : (FmtDoors.textMethod 95 "Error").run Tryz.prog w = .ok true w := by kernel_rfl

attribute [local go_sem] Tryz.call60 Tryz.guard Tryz.fmt1 Tryz.fmt1r Tryz.act9_113w Tryz.op9_113w Tryz.act9_113 Tryz.op9_113 Tryz.strict9 Tryz.str9 Tryz.ptr95 Tryz.elem95 Tryz.isError95
set_option maxRecDepth 100000 in
set_option maxHeartbeats 1000000 in
/-- fmt.Errorf of two strings under %q. -/
theorem errorf2_c (F : Interp) (s t : ByteArray) (blk : Nat) (w : World) (hF : F.answers w.tape) (hc0 : w.cell? ⟨blk, 0, none⟩ = some (.iface 9 (.string s))) (hc1 : w.cell? ⟨blk, 1, none⟩ = some (.iface 9 (.string t))) :
    Calls Tryz.prog 47 #[.string ⟨#[119, 97, 110, 116, 32, 116, 104, 101, 32, 104, 101, 97, 100, 101, 114, 32, 37, 113, 59, 32, 103, 111, 116, 32, 37, 113]⟩, .slice (some ⟨blk, 0, none⟩) 2 2] w fun e w' => e = .returned (.iface 95 (.pointer (some ⟨w.heap.size, 0, none⟩))) ∧ ∃ S, w' = (w.alloc (.cells #[.string S] 97)).drew := by
  have hF' := answers_open hF
  have hb : blk < w.heap.size := World.block_lt_of_cell? _ _ hc0
  go_enter Tryz.func47, Tryz.ntmps47
  go_wp2
  apply rows_value Tryz.nextTurns
  case hr =>
    go_simp
    exact ⟨rfl, rfl⟩
  case h =>
    go_wp2
    go_ret
    exact ⟨rfl, _, rfl⟩
end Go.Proofs.Qxb6615582aGreatFmt
