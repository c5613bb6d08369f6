import Derived.Test.Qxb6615582aGreatFmtFf
import Derived.Test.Qxb6615582aGreatFmtFg
namespace Go.Proofs.Qxb6615582aGreatFmt
open Go.Extern.Stop Go.Stop Go.Extern Go.RowKit

/-! ### fmt's stopped functions at the formats of Read -/
theorem Tryz.call53 (args : Array Value) (w : World) : (callFunc 53 args).run Tryz.prog w = (FmtCalls.sprintf #[9, 59] #[9] args).run Tryz.prog w :=
  run_callFunc_next Tryz.func53 (by kernel_rfl) (by kernel_rfl) (by kernel_rfl) args w
theorem Tryz.fmt2 : FmtStop.printed? ⟨#[37, 100, 32, 102, 105, 101, 108, 100, 115]⟩ 1 = some [(0, 100, false)] := by kernel_rfl
theorem Tryz.fmt2r (w : World) : (FmtDoors.printed ⟨#[37, 100, 32, 102, 105, 101, 108, 100, 115]⟩ 1).run Tryz.prog w = .ok [(0, 100, false)] w := by kernel_rfl
theorem Tryz.fmt3 : FmtStop.printed? ⟨#[119, 97, 110, 116, 32, 37, 115, 59, 32, 103, 111, 116, 32, 37, 100]⟩ 2 = some [(0, 115, false), (1, 100, false)] := by kernel_rfl
theorem Tryz.fmt3r (w : World) : (FmtDoors.printed ⟨#[119, 97, 110, 116, 32, 37, 115, 59, 32, 103, 111, 116, 32, 37, 100]⟩ 2).run Tryz.prog w = .ok [(0, 115, false), (1, 100, false)] w := by kernel_rfl
theorem Tryz.fmt4 : FmtStop.printed? ⟨#[110, 111, 116, 32, 85, 84, 70, 45, 56, 32, 116, 101, 120, 116, 59, 32, 115, 97, 118, 101, 32, 116, 104, 101, 32, 102, 105, 108, 101, 32, 97, 115, 32, 85, 84, 70, 45, 56]⟩ 0 = some [] := by kernel_rfl
theorem Tryz.fmt4r (w : World) : (FmtDoors.printed ⟨#[110, 111, 116, 32, 85, 84, 70, 45, 56, 32, 116, 101, 120, 116, 59, 32, 115, 97, 118, 101, 32, 116, 104, 101, 32, 102, 105, 108, 101, 32, 97, 115, 32, 85, 84, 70, 45, 56]⟩ 0).run Tryz.prog w = .ok [] w := by kernel_rfl
def Tryz.shape3 : List UInt8 := [5, 3, 0, 0, 0, 0, 0, 0, 0, 105, 110, 116]
theorem Tryz.act3_100 (name : String) (x : Value) (w : World) : (FmtCalls.act name false 100 false (.iface 3 x)).run Tryz.prog w = .ok (.closed false) w := by kernel_rfl
theorem Tryz.act3_100w (name : String) (x : Value) (w : World) : (FmtCalls.act name true 100 false (.iface 3 x)).run Tryz.prog w = .ok (.closed true) w := by kernel_rfl
theorem Tryz.op3_100 (name : String) (x : Int) (w : World) : (FmtStop.operand name false 100 false (.iface 3 (.int .i64 x))).run Tryz.prog w = .ok (Tryz.shape3, Go.Extern.Stop.digits 8 (x % 2 ^ 64).toNat) w := by kernel_rfl
theorem Tryz.op3_100w (name : String) (x : Int) (w : World) : (FmtStop.operand name true 100 false (.iface 3 (.int .i64 x))).run Tryz.prog w = .ok (Tryz.shape3, Go.Extern.Stop.digits 8 (x % 2 ^ 64).toNat) w := by kernel_rfl
theorem Tryz.act9_115 (name : String) (x : Value) (w : World) : (FmtCalls.act name false 115 false (.iface 9 x)).run Tryz.prog w = .ok (.closed false) w := by kernel_rfl
theorem Tryz.act9_115w (name : String) (x : Value) (w : World) : (FmtCalls.act name true 115 false (.iface 9 x)).run Tryz.prog w = .ok (.closed true) w := by kernel_rfl
theorem Tryz.op9_115 (name : String) (x : ByteArray) (w : World) : (FmtStop.operand name false 115 false (.iface 9 (.string x))).run Tryz.prog w = .ok (Tryz.shape9, FmtStop.pack x.data.toList) w := by kernel_rfl
theorem Tryz.op9_115w (name : String) (x : ByteArray) (w : World) : (FmtStop.operand name true 115 false (.iface 9 (.string x))).run Tryz.prog w = .ok (Tryz.shape9, FmtStop.pack x.data.toList) w := by kernel_rfl
theorem Tryz.strict3 (name : String) (x : Int) (w : World) : (FmtStop.strict name (.iface 3 (.int .i64 x))).run Tryz.prog w = .ok (Tryz.shape3, Go.Extern.Stop.digits 8 (x % 2 ^ 64).toNat) w := by kernel_rfl
theorem Tryz.str3 (w : World) : (typeStr 3).run Tryz.prog w = .ok "int" w := by kernel_rfl
attribute [local go_sem] Tryz.call53 Tryz.call60 Tryz.guard Tryz.fmt2 Tryz.fmt2r Tryz.fmt3 Tryz.fmt3r Tryz.fmt4 Tryz.fmt4r Tryz.act3_100 Tryz.act3_100w Tryz.op3_100 Tryz.op3_100w Tryz.act9_115 Tryz.act9_115w Tryz.op9_115 Tryz.op9_115w Tryz.strict3 Tryz.str3 Tryz.strict9 Tryz.str9 Tryz.ptr95 Tryz.elem95 Tryz.isError95

set_option maxRecDepth 100000 in
set_option maxHeartbeats 1000000 in
/-- fieldCount. -/
theorem fieldCount_c (F : Interp) (n : Int) (w : World) (hF : F.answers w.tape) : Calls Tryz.prog 42 #[.int .i64 n] w fun e w' => (∃ S, e = .returned (.string S)) ∧ Kp (fun _ => False) w w' := by
  have hF' := answers_open hF
  cases h1 : (n == 1)
  · go_enter Tryz.func42, Tryz.ntmps42
    go_wp2
    apply rows_value Tryz.nextTurns
    case hr =>
      go_simp
      exact ⟨rfl, rfl⟩
    case h =>
      go_wp2
      go_ret
      exact ⟨⟨_, rfl⟩, ((Kp.refl _ w).alloc _).drew⟩
  · go_enter Tryz.func42, Tryz.ntmps42
    go_wp2
    go_ret
    exact ⟨⟨_, rfl⟩, Kp.refl _ _⟩
set_option maxRecDepth 100000 in
set_option maxHeartbeats 1000000 in
/-- fmt.Errorf of a string and a number. -/
theorem errorf3_c (F : Interp) (s : ByteArray) (n : Int) (blk : Nat) (w : World) (hF : F.answers w.tape) (hc0 : w.cell? ⟨blk, 0, none⟩ = some (.iface 9 (.string s))) (hc1 : w.cell? ⟨blk, 1, none⟩ = some (.iface 3 (.int .i64 n))) :
    Calls Tryz.prog 47 #[.string ⟨#[119, 97, 110, 116, 32, 37, 115, 59, 32, 103, 111, 116, 32, 37, 100]⟩, .slice (some ⟨blk, 0, none⟩) 2 2] w fun e w' => e = .returned (.iface 95 (.pointer (some ⟨w.heap.size, 0, none⟩))) ∧ ∃ S, w' = (w.alloc (.cells #[.string S] 97)).drew := by
  have hF' := answers_open hF
  have hb : blk < w.heap.size := World.block_lt_of_cell? _ _ hc0
  go_enter Tryz.func47, Tryz.ntmps47
  go_wp2
  apply rows_value Tryz.nextTurns
  case hr =>
    go_simp
    exact ⟨rfl, rfl⟩
  case h =>
    go_wp2
    go_ret
    exact ⟨rfl, _, rfl⟩
set_option maxRecDepth 100000 in
set_option maxHeartbeats 1000000 in
/-- fmt.Errorf of nothing. -/
theorem errorf0_c (w : World) :
    Calls Tryz.prog 47 #[.string ⟨#[110, 111, 116, 32, 85, 84, 70, 45, 56, 32, 116, 101, 120, 116, 59, 32, 115, 97, 118, 101, 32, 116, 104, 101, 32, 102, 105, 108, 101, 32, 97, 115, 32, 85, 84, 70, 45, 56]⟩, .slice none 0 0] w fun e w' => e = .returned (.iface 95 (.pointer (some ⟨w.heap.size, 0, none⟩))) ∧ ∃ S, w' = w.alloc (.cells #[.string S] 97) := by
  go_enter Tryz.func47, Tryz.ntmps47
  go_wp2
  go_ret
  exact ⟨rfl, _, rfl⟩
end Go.Proofs.Qxb6615582aGreatFmt
