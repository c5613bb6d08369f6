import Derived.Test.Qxb6615582aGreatFmtFh
import Derived.Deep.RegionWith
namespace Go.Proofs.Qxb6615582aGreatFmt
open Go.Extern.Stop Go.Stop Go.Extern Go.RowKit

set_option maxRecDepth 100000 in
set_option maxHeartbeats 2000000 in
theorem lineErrorf3_c (F : Interp) (s : ByteArray) (n : Int) (blk lB : Nat) (w : World) (l : Int) (fv cv : Value) (hF : F.answers w.tape) (hc0 : w.cell? ⟨blk, 0, none⟩ = some (.iface 9 (.string s))) (hc1 : w.cell? ⟨blk, 1, none⟩ = some (.iface 3 (.int .i64 n))) (hL : Blk w lB 42 #[.int .i64 l, fv, cv]) :
    Calls Tryz.prog 35 #[.pointer (some ⟨lB, 0, none⟩), .string ⟨#[119, 97, 110, 116, 32, 37, 115, 59, 32, 103, 111, 116, 32, 37, 100]⟩, .slice (some ⟨blk, 0, none⟩) 2 2] w (LePost w l .empty) := by
  have hl0 : w.cell? ⟨lB, 0, none⟩ = some (.int .i64 l) := hL.cell rfl
  have hlt : lB < w.heap.size := hL.lt
  have hlt1 : lB < w.heap.size + 1 := by omega
  have HC0 := hide (errorf3_c F s n blk w hF hc0 hc1)
  have HC1 := hide (errorf3_c F s n blk w.drew hF hc0 hc1)
  clear hL hF hc0 hc1
  go_enter Tryz.func35, Tryz.ntmps35
  go_wp2_with fail
  go_region_with (first | (go_at_call 47; refine HC0.out.mono ?_; rintro e w1 ⟨rfl, S, rfl⟩) | (go_at_call 47; refine HC1.out.mono ?_; rintro e w1 ⟨rfl, S, rfl⟩))
  all_goals
    go_wp2
    go_ret
    exact LePost.mk (S := S) rfl rfl rfl rfl
set_option maxRecDepth 100000 in
set_option maxHeartbeats 2000000 in
theorem lineErrorf0_c (lB : Nat) (w : World) (l : Int) (fv cv : Value) (hL : Blk w lB 42 #[.int .i64 l, fv, cv]) :
    Calls Tryz.prog 35 #[.pointer (some ⟨lB, 0, none⟩), .string ⟨#[110, 111, 116, 32, 85, 84, 70, 45, 56, 32, 116, 101, 120, 116, 59, 32, 115, 97, 118, 101, 32, 116, 104, 101, 32, 102, 105, 108, 101, 32, 97, 115, 32, 85, 84, 70, 45, 56]⟩, .slice none 0 0] w (LePost w l .empty) := by
  have hl0 : w.cell? ⟨lB, 0, none⟩ = some (.int .i64 l) := hL.cell rfl
  have hlt : lB < w.heap.size := hL.lt
  have hlt1 : lB < w.heap.size + 1 := by omega
  have HC0 := hide (errorf0_c w)
  have HC1 := hide (errorf0_c w.drew)
  clear hL
  go_enter Tryz.func35, Tryz.ntmps35
  go_wp2_with fail
  go_region_with (first | (go_at_call 47; refine HC0.out.mono ?_; rintro e w1 ⟨rfl, S, rfl⟩) | (go_at_call 47; refine HC1.out.mono ?_; rintro e w1 ⟨rfl, S, rfl⟩))
  all_goals
    go_wp2
    go_ret
    exact LePost.mk (S := S) rfl rfl rfl rfl
set_option maxRecDepth 100000 in
set_option maxHeartbeats 2000000 in
/-- FieldErrorf at the format of Read. -/
theorem fieldErrorf_c (lB : Nat) (w : World) (l : Int) (fv : Value) (c : ByteArray) (co : Option Addr) (cl cc' : Nat) (hL : Blk w lB 42 #[.int .i64 l, fv, .slice co cl cc']) (hcl : cl ≤ 1048577) :
    Calls Tryz.prog 34 #[.pointer (some ⟨lB, 0, none⟩), .string c, .string ⟨#[110, 111, 116, 32, 85, 84, 70, 45, 56, 32, 116, 101, 120, 116, 59, 32, 115, 97, 118, 101, 32, 116, 104, 101, 32, 102, 105, 108, 101, 32, 97, 115, 32, 85, 84, 70, 45, 56]⟩, .slice none 0 0] w (LePost w l (if cl = 1 then .empty else c)) := by
  have hl0 : w.cell? ⟨lB, 0, none⟩ = some (.int .i64 l) := hL.cell rfl
  have hl2 : w.cell? ⟨lB, 2, none⟩ = some (.slice co cl cc') := hL.cell rfl
  have hlt : lB < w.heap.size := hL.lt
  have hlt1 : lB < w.heap.size + 1 := by omega
  by_cases h1 : cl = 1
  · subst h1
    rw [if_pos rfl]
    have HC0 := hide (lineErrorf0_c lB w l _ _ hL)
    clear hL hl0 hcl
    go_enter Tryz.func34, Tryz.ntmps34
    go_wp2_with ((go_at_call 35; refine HC0.out.mono ?_; rintro e w1 hp; obtain ⟨fe, a, S, rfl, hrest⟩ := hp; have Hp := hide hrest; clear hrest))
    go_ret
    exact ⟨fe, a, S, rfl, Hp.out⟩
  · rw [if_neg h1]
    have h1' : ((cl : Int) == 1) = false := by rw [beq_eq_false_iff_ne]; omega
    have HC0 := hide (errorf0_c w)
    have HC1 := hide (errorf0_c w.drew)
    clear hL hcl
    go_enter Tryz.func34, Tryz.ntmps34
    go_wp2_with fail
    go_region_with (first | (go_at_call 47; refine HC0.out.mono ?_; rintro e w1 ⟨rfl, S, rfl⟩) | (go_at_call 47; refine HC1.out.mono ?_; rintro e w1 ⟨rfl, S, rfl⟩))
    all_goals
      go_wp2
      go_ret
      exact LePost.mk (S := S) rfl rfl rfl rfl
end Go.Proofs.Qxb6615582aGreatFmt
