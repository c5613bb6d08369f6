import Derived.Test.Qxb6615582aGreatFmtFf
import Derived.Test.Qxb6615582aGreatFmtPt2
import Derived.Deep.RegionWith
namespace Go.Proofs.Qxb6615582aGreatFmt
open Go.Extern.Stop Go.Stop Go.Extern Go.RowKit

/-- What Errorf hands out: a new FieldError with a new error in it. -/
def LePost (w : World) (l : Int) (c : ByteArray) (e : Ending) (w' : World) : Prop := ∃ fe a S, e = .returned (.iface 76 (.pointer (some ⟨fe, 0, none⟩))) ∧ w.heap.size ≤ fe ∧ w.heap.size ≤ a ∧ Blk w' fe 79 #[.int .i64 l, .string c, .iface 95 (.pointer (some ⟨a, 0, none⟩))] ∧ Blk w' a 97 #[.string S] ∧ Kp (fun _ => False) w w'
theorem LePost.mk {w wx : World} {l : Int} {c S : ByteArray} (e1 : wx.heap = ((w.alloc (.cells #[.string S] 97)).alloc (.cells #[.int .i64 l, .string c, .iface 95 (.pointer (some ⟨w.heap.size, 0, none⟩))] 79)).heap) (e2 : wx.os = w.os) (e3 : wx.tape = w.tape) (e4 : wx.output = w.output) : LePost w l c (.returned (.iface 76 (.pointer (some ⟨w.heap.size + 1, 0, none⟩)))) wx := by
  refine ⟨w.heap.size + 1, w.heap.size, S, rfl, by omega, by omega, ?_, ?_, ?_⟩
  · have := (Blk.new (w.alloc (.cells #[.string S] 97)) 79 #[.int .i64 l, .string c, .iface 95 (.pointer (some ⟨w.heap.size, 0, none⟩))])
    unfold Blk at this ⊢
    rw [e1]
    simpa using this
  · have := (Blk.new w 97 #[.string S]).alloc (.cells #[.int .i64 l, .string c, .iface 95 (.pointer (some ⟨w.heap.size, 0, none⟩))] 79)
    unfold Blk at this ⊢
    rw [e1]; exact this
  · exact Kp.heap (kp2 w _ _) e1 e2 e3 e4
set_option maxRecDepth 100000 in
set_option maxHeartbeats 2000000 in
theorem lineErrorf2_c (F : Interp) (s t : ByteArray) (blk lB : Nat) (w : World) (l : Int) (fv cv : Value) (hF : F.answers w.tape) (hc0 : w.cell? ⟨blk, 0, none⟩ = some (.iface 9 (.string s))) (hc1 : w.cell? ⟨blk, 1, none⟩ = some (.iface 9 (.string t))) (hL : Blk w lB 42 #[.int .i64 l, fv, cv]) :
    Calls Tryz.prog 35 #[.pointer (some ⟨lB, 0, none⟩), .string ⟨#[119, 97, 110, 116, 32, 116, 104, 101, 32, 104, 101, 97, 100, 101, 114, 32, 37, 113, 59, 32, 103, 111, 116, 32, 37, 113]⟩, .slice (some ⟨blk, 0, none⟩) 2 2] w (LePost w l .empty) := by
  have hl0 : w.cell? ⟨lB, 0, none⟩ = some (.int .i64 l) := hL.cell rfl
  have hlt : lB < w.heap.size := hL.lt
  have hlt1 : lB < w.heap.size + 1 := by omega
  have HC0 := hide (errorf2_c F s t blk w hF hc0 hc1)
  have HC1 := hide (errorf2_c F s t blk w.drew hF hc0 hc1)
  clear hL hF hc0 hc1
  go_enter Tryz.func35, Tryz.ntmps35
  go_wp2_with fail
  go_region_with (first | (go_at_call 47; refine HC0.out.mono ?_; rintro e w1 ⟨rfl, S, rfl⟩) | (go_at_call 47; refine HC1.out.mono ?_; rintro e w1 ⟨rfl, S, rfl⟩))
  all_goals
    go_wp2
    go_ret
    exact LePost.mk (S := S) rfl rfl rfl rfl
end Go.Proofs.Qxb6615582aGreatFmt
