import Derived.Test.Qxb6615043aDoorWalksF
import Derived.Test.Qxb6615043aDoorWalksH
import Derived.Deep.OwnRows
import Derived.Lib.SliceRun
namespace Go.Proofs.Qxb6615043aDoor
open Go.RowKit

set_option maxRecDepth 100000 in
set_option maxHeartbeats 400000 in
theorem zzBytes_any (a : Option Addr) (n cap : Nat) (p c : Int) (hn : n ≤ 1048576) (w : World) :
    Calls Tryd.prog 5 #[.slice a n cap, .int .i64 p, .int .i64 c] w fun e w' => e = .returned (.bool true) ∧ w' = w := by
  have hn' : (n : Int) ≤ 1048576 := by omega
  go_enter Tryd.func5, Tryd.ntmps5
  go_wp2
  go_ret
  exact ⟨rfl, rfl⟩

set_option maxRecDepth 100000 in
set_option maxHeartbeats 400000 in
theorem zzBytes_no (a : Option Addr) (n cap : Nat) (p c : Int) (hn : ¬ n ≤ 1048576) (w : World) :
    Calls Tryd.prog 5 #[.slice a n cap, .int .i64 p, .int .i64 c] w fun e w' => e = .returned (.bool false) ∧ w' = w := by
  have hn' : 1048576 < (n : Int) := by omega
  go_enter Tryd.func5, Tryd.ntmps5
  go_wp2
  go_ret
  exact ⟨rfl, rfl⟩


theorem Tryd.info5 : (Tryd.prog.info? 5).map (fun i => (i.zero, i.size, i.bytes)) = some (some (.int .u8 0), 1, 1) := by kernel_rfl

set_option maxRecDepth 100000 in
set_option maxHeartbeats 400000 in
theorem zzClone_nil (w : World) :
    Calls Tryd.prog 7 #[.slice none 0 0] w fun e w' => e = .returned (.slice none 0 0) ∧ w' = w := by
  have hq := fun w => Lib.run_eql_slice_nil (P := Tryd.prog) w 22 5 none 0 0 0 0 Tryd.underlying22
  go_enter Tryd.func7, Tryd.ntmps7
  go_wp2
  go_ret
  exact ⟨rfl, rfl⟩

set_option maxRecDepth 100000 in
set_option maxHeartbeats 400000 in
theorem zzClone_any {w : World} {b off : Nat} {l : List UInt8} (h : At w b off l) (hb : b < w.heap.size) (cap : Nat) (hn : l.length ≤ 1048576) :
    Calls Tryd.prog 7 #[.slice (some ⟨b, off, none⟩) l.length cap] w fun e w' => e = .returned (.slice (some ⟨w.heap.size, 0, none⟩) l.length l.length) ∧ At w' w.heap.size 0 l ∧ w.heap.size < w'.heap.size ∧ Below w.heap.size w w' := by
  have hq := fun w => Lib.run_eql_slice_nil (P := Tryd.prog) w 22 5 (some ⟨b, off, none⟩) l.length cap 0 0 Tryd.underlying22
  have hmk := run_make_row' (P := Tryd.prog) 22 5 (.int .u8 0) 1 Tryd.underlying22 Tryd.info5 rfl .i64 .i64 l.length (by omega) (by omega)
  have H := hide h
  clear h
  go_enter Tryd.func7, Tryd.ntmps7
  go_wp2
  have hrow : Hid ((w.alloc (.cells (madeCells #[.int .u8 0] l.length) 5)).rowIs w.heap.size 5 l.length (fun _ => .int .u8 0)) := World.rowIs_made w (.int .u8 0) l.length 5
  go_loopw [4] (fun v wr => ∃ k : Nat, k ≤ l.length ∧ v = .int .i64 k ∧ Hid (wr.rowIs w.heap.size 5 l.length (fun j => if j < k then .int .u8 (fl l j) else .int .u8 0)) ∧ Hid (Below w.heap.size w wr)) (fun v _ => l.length - (intOf v).toNat)
  case atStart => exact ⟨0, Nat.zero_le _, rfl, hrow.out.congr (fun i _ => by simp), (Below.refl _ _).alloc (Nat.le_refl _) _⟩
  case round =>
    obtain ⟨k, hk, rfl, hr, hB⟩ := hrel
    by_cases hlt : k < l.length
    · have hlt' : (k : Int) < l.length := by omega
      have hc : wr.cell? ⟨b, off + k, none⟩ = some (.int .u8 (fl l k)) := by rw [hB.out.cell (p := ⟨b, off + k, none⟩) hb]; exact H.out k hlt
      have hd := hr.out.cell hlt
      have hf := hr.out.frozen k
      have hset := hide (hr.out.set k (.int .u8 (fl l k)))
      go_wp2
      go_roundw
      case rel =>
        refine ⟨k + 1, by omega, by go_num, hset.out.congr (fun i _ => ?_), hB.out.setCell (Nat.le_refl _) _⟩
        by_cases e : i = k
        · subst e; simp
        · by_cases e2 : i < k
          · have : i < k + 1 := by omega
            simp [e, e2, this]
          · have : ¬ i < k + 1 := by omega
            simp [e, e2, this]
      case measure => simp [intOf]; omega
    · have hlt' : (l.length : Int) ≤ k := by omega
      go_wp2
      go_ret
      refine ⟨rfl, fun j hj => ?_, hr.out.lt, hB.out⟩
      rw [Nat.zero_add, hr.out.cell hj, if_pos (by omega)]

set_option maxRecDepth 100000 in
set_option maxHeartbeats 400000 in
theorem newParser_any (v : Value) (hv : v = .slice none 0 0 ∨ ∃ a n c, v = .slice (some a) n c) (pos : Int) (w : World) :
    Calls Tryd.prog 8 #[v, .int .i64 pos] w fun e w' => e = .returned (.pointer (some ⟨w.heap.size, 0, none⟩)) ∧ w' = w.alloc (.cells #[v, .slice none 0 0, .int .i64 pos, .int .i64 0, .map none, .map none] 41) := by
  rcases hv with rfl | ⟨a, n, c, rfl⟩
  · go_enter Tryd.func8, Tryd.ntmps8
    go_wp2
    go_ret
    exact ⟨rfl, rfl⟩
  · go_enter Tryd.func8, Tryd.ntmps8
    go_wp2
    go_ret
    exact ⟨rfl, rfl⟩

set_option maxRecDepth 100000 in
set_option maxHeartbeats 400000 in
theorem zzPos_any {w : World} {pb : Nat} {a : Option Addr} {l : List UInt8} {pos : Nat} (h : PA w pb a l pos) :
    Calls Tryd.prog 11 #[.pointer (some ⟨pb, 0, none⟩)] w fun e w' => e = .returned (.int .i64 pos) ∧ w' = w := by
  have hc := h.pos
  clear h
  go_enter Tryd.func11, Tryd.ntmps11
  go_wp2
  go_ret
  exact ⟨rfl, rfl⟩

set_option maxRecDepth 100000 in
set_option maxHeartbeats 400000 in
theorem zzEq_any {w : World} {b off b' off' n cap cap' : Nat} {f : Nat → Nat} (h : ∀ j, j < n → w.cell? ⟨b, off + j, none⟩ = some (.int .u8 (f j))) (h' : ∀ j, j < n → w.cell? ⟨b', off' + j, none⟩ = some (.int .u8 (f j))) (hn : n ≤ 1048576) :
    Calls Tryd.prog 10 #[.slice (some ⟨b, off, none⟩) n cap, .slice (some ⟨b', off', none⟩) n cap'] w fun e w' => e = .returned (.bool true) ∧ ∃ m, w' = w.drewN m := by
  have H := hide h
  have H' := hide h'
  clear h h'
  go_enter Tryd.func10, Tryd.ntmps10
  go_wp2
  go_loopw [5] (fun v wr => ∃ k m : Nat, k ≤ n ∧ v = .int .i64 k ∧ wr = w.drewN m) (fun v _ => n - (intOf v).toNat)
  case atStart => exact ⟨0, 0, Nat.zero_le _, rfl, rfl⟩
  case round =>
    obtain ⟨k, m, hk, rfl, rfl⟩ := hrel
    by_cases hlt : k < n
    · have hlt' : (k : Int) < n := by omega
      have hc := H.out k hlt
      have hc' := H'.out k hlt
      go_wp2
      go_quiet (fail)
      go_wp2
      go_roundw
      case rel => exact ⟨k + 1, _, by omega, by go_num, by first | rfl | (rw [World.drewN_drewN])⟩
      case measure => simp [intOf]; omega
    · have hlt' : (n : Int) ≤ k := by omega
      go_wp2
      go_ret
      exact ⟨rfl, m, rfl⟩

set_option maxRecDepth 100000 in
set_option maxHeartbeats 400000 in
theorem zzEq_empty (a a' : Option Addr) (cap cap' : Nat) (w : World) :
    Calls Tryd.prog 10 #[.slice a 0 cap, .slice a' 0 cap'] w fun e w' => e = .returned (.bool true) ∧ w' = w := by
  go_enter Tryd.func10, Tryd.ntmps10
  go_wp2
  go_loop [5] (fun v => v = .int .i64 0) (fun _ => 0)
  case atStart => rfl
  case round =>
    subst hrel
    go_wp2
    go_ret
    exact ⟨rfl, rfl⟩
end Go.Proofs.Qxb6615043aDoor
