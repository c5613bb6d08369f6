import Derived.Test.Qxb6615582aGreatFmtPt1
import Derived.Test.Qxb6615582aGreatFmtErr
import Derived.Laws.Rows
namespace Go.Proofs.Qxb6615582aGreatFmt
open Go.RowKit

theorem Tryz.info32 : (Tryz.prog.info? 32).map (·.size) = some 8 := by kernel_rfl
/-- Two errors' pointers part. -/
def Ne2 (w : World) (a b : Addr) : Prop := a ≠ b ∧ (∃ ca ta, w.heap[a.block]? = some (.cells ca ta (0, 0))) ∧ ∃ cb tb, w.heap[b.block]? = some (.cells cb tb (0, 0))
theorem Ne2.run {w : World} {a b : Addr} (h : Ne2 w a b) {W : World} (hk : Kp (fun _ => False) w W) : Sem.run Tryz.prog (binOp .eql 52 (.iface 95 (.pointer (some a))) (.iface 95 (.pointer (some b)))) W = .ok (.bool false) W := by
  obtain ⟨hne, ⟨ca, ta, ha⟩, cb, tb, hb⟩ := h
  rw [← hk.block _ (Array.getElem?_eq_some_iff.1 ha).1 (fun e => e)] at ha
  rw [← hk.block _ (Array.getElem?_eq_some_iff.1 hb).1 (fun e => e)] at hb
  have hc := Tryz.comp95
  have hs := Tryz.size97
  cases hi : Tryz.prog.info? 95 with
  | none => simp [hi] at hc
  | some i =>
    cases hj : Tryz.prog.info? 97 with
    | none => simp [hj] at hs
    | some j =>
      have hsz : j.size = 1 := by simpa [hj] using hs
      exact run_eql_iface_ptr_other W Tryz.underlying52 Tryz.underlying95 hi (by simpa [hi] using hc) hj (by rw [hsz]; decide) hne ha hb

theorem Tryz.zero76 : (Tryz.prog.info? 76).map (·.zero) = some (some (.pointer none)) := by kernel_rfl
theorem ta_no (v : Value) (w : World) : Sem.run Tryz.prog (Instr.typeAssert (.iface 95 v) 52 76 true) w = .ok (.tuple #[.pointer none, .bool false]) w := by
  cases hi : Tryz.prog.info? 76 with
  | none => have := Tryz.zero76; simp [hi] at this
  | some i =>
    have hz : i.zero = some (.pointer none) := by have := Tryz.zero76; simpa [hi] using this
    simp [Instr.typeAssert, run_underlying Tryz.underlying76, typeInfo, zeroValue, hi, hz]
theorem ta_yes (v : Value) (w : World) : Sem.run Tryz.prog (Instr.typeAssert (.iface 76 v) 52 76 true) w = .ok (.tuple #[v, .bool true]) w := by
  simp [Instr.typeAssert, run_underlying Tryz.underlying76]
def PvPost (w : World) (v : Value) (e : Ending) (w' : World) : Prop := e = .returned v ∧ Kp (fun _ => False) w w'
theorem kp2 (w : World) (o1 o2 : Obj) : Kp (fun _ => False) w ((w.alloc o1).alloc o2) := ((Kp.refl _ w).alloc _).alloc _
theorem blk2 (w : World) (cs : Array Value) (o2 : Obj) : ((w.alloc (.cells cs 32)).alloc o2).heap[w.heap.size]? = some (.cells cs 32 (0, 0)) := by
  rw [Below.heap_alloc _ _ _ (by simp)]; exact heap_alloc_new w _
set_option maxRecDepth 100000 in
set_option maxHeartbeats 1000000 in
theorem parts_nil (w : World) : Calls Tryz.prog 30 #[.nilIface] w (PvPost w (pv true false false 0 .empty false false false)) := by
  go_enter Tryz.func30, Tryz.ntmps30
  go_wp2
  (try simp only [Exit.inBlock, Exit.then])
  exact bodyPost_ret (results_cell_row rfl _ _ w.heap.size 32 _ (0, 0) _ rfl (blk2 w _ _) Tryz.underlying32 rfl Tryz.info32) rfl ⟨rfl, kp2 _ _ _⟩
set_option maxRecDepth 100000 in
set_option maxHeartbeats 1000000 in
theorem parts_str (w : World) (a ae : Addr) (b : Bool) (h0 : w.cell? ⟨0, 0, none⟩ = some (.iface 95 (.pointer (some ae)))) (hb : (b = true ∧ a = ae) ∨ (b = false ∧ Ne2 w a ae)) : Calls Tryz.prog 30 #[.iface 95 (.pointer (some a))] w (PvPost w (pv false b false 0 .empty false false false)) := by
  have hlt : 0 < w.heap.size := lt_of_cell h0
  have hq : ∀ o1 o2, Sem.run Tryz.prog (binOp .eql 52 (.iface 95 (.pointer (some a))) (.iface 95 (.pointer (some ae)))) ((w.alloc o1).alloc o2) = .ok (.bool b) ((w.alloc o1).alloc o2) := fun o1 o2 => by
    rcases hb with ⟨rfl, rfl⟩ | ⟨rfl, h⟩
    · exact Er.same a
    · exact h.run (kp2 _ _ _)
  clear hb
  have ht := ta_no (.pointer (some a))
  go_enter Tryz.func30, Tryz.ntmps30
  go_wp2
  (try simp only [Exit.inBlock, Exit.then])
  exact bodyPost_ret (results_cell_row rfl _ _ w.heap.size 32 _ (0, 0) _ rfl (blk2 w _ _) Tryz.underlying32 rfl Tryz.info32) rfl ⟨rfl, kp2 _ _ _⟩
theorem eql_76_95 (w : World) (a b : Addr) : Sem.run Tryz.prog (binOp .eql 52 (.iface 76 (.pointer (some a))) (.iface 95 (.pointer (some b)))) w = .ok (.bool false) w := by
  have h : ∀ d : Nat, (Op.equalIn (d + 2) 52 (.iface 76 (.pointer (some a))) (.iface 95 (.pointer (some b)))).run Tryz.prog w = .ok false w := fun d => by
    simp [Op.equalIn, run_underlying Tryz.underlying52]
  simp only [binOp]
  simp [Op.equal, Op.maxDepth, h 9998]
set_option maxRecDepth 100000 in
set_option maxHeartbeats 1000000 in
theorem parts_fe (w : World) (fe : Nat) (a ae aq abq : Addr) (q bq : Bool) (l : Int) (c : ByteArray) (h0 : w.cell? ⟨0, 0, none⟩ = some (.iface 95 (.pointer (some ae)))) (h1 : w.cell? ⟨1, 0, none⟩ = some (.iface 95 (.pointer (some aq)))) (h2 : w.cell? ⟨2, 0, none⟩ = some (.iface 95 (.pointer (some abq))))
    (hf : Blk w fe 79 #[.int .i64 l, .string c, .iface 95 (.pointer (some a))]) (hq : (q = true ∧ a = aq) ∨ (q = false ∧ Ne2 w a aq)) (hb : (bq = true ∧ a = abq) ∨ (bq = false ∧ Ne2 w a abq)) :
    Calls Tryz.prog 30 #[.iface 76 (.pointer (some ⟨fe, 0, none⟩))] w (PvPost w (pv false false true l c false q bq)) := by
  have hq1 : ∀ o1 o2, Sem.run Tryz.prog (binOp .eql 52 (.iface 95 (.pointer (some a))) (.iface 95 (.pointer (some aq)))) ((w.alloc o1).alloc o2).drew = .ok (.bool q) ((w.alloc o1).alloc o2).drew := fun o1 o2 => by
    rcases hq with ⟨rfl, rfl⟩ | ⟨rfl, h⟩
    · exact Er.same a
    · exact h.run (kp2 _ _ _).drew
  have hq2 : ∀ o1 o2, Sem.run Tryz.prog (binOp .eql 52 (.iface 95 (.pointer (some a))) (.iface 95 (.pointer (some aq)))) ((w.alloc o1).alloc o2).drew.drew = .ok (.bool q) ((w.alloc o1).alloc o2).drew.drew := fun o1 o2 => by
    rcases hq with ⟨rfl, rfl⟩ | ⟨rfl, h⟩
    · exact Er.same a
    · exact h.run (kp2 _ _ _).drew.drew
  have hb1 : ∀ o1 o2, Sem.run Tryz.prog (binOp .eql 52 (.iface 95 (.pointer (some a))) (.iface 95 (.pointer (some abq)))) ((w.alloc o1).alloc o2).drew = .ok (.bool bq) ((w.alloc o1).alloc o2).drew := fun o1 o2 => by
    rcases hb with ⟨rfl, rfl⟩ | ⟨rfl, h⟩
    · exact Er.same a
    · exact h.run (kp2 _ _ _).drew
  have hb2 : ∀ o1 o2, Sem.run Tryz.prog (binOp .eql 52 (.iface 95 (.pointer (some a))) (.iface 95 (.pointer (some abq)))) ((w.alloc o1).alloc o2).drew.drew = .ok (.bool bq) ((w.alloc o1).alloc o2).drew.drew := fun o1 o2 => by
    rcases hb with ⟨rfl, rfl⟩ | ⟨rfl, h⟩
    · exact Er.same a
    · exact h.run (kp2 _ _ _).drew.drew
  have ht := ta_yes (.pointer (some ⟨fe, 0, none⟩))
  have hqe := fun W => eql_76_95 W ⟨fe, 0, none⟩ ae
  have f0 : w.cell? ⟨fe, 0, none⟩ = some (.int .i64 l) := hf.cell rfl
  have f1 : w.cell? ⟨fe, 1, none⟩ = some (.string c) := hf.cell rfl
  have f2 : w.cell? ⟨fe, 2, none⟩ = some (.iface 95 (.pointer (some a))) := hf.cell rfl
  have l0 : 0 < w.heap.size := lt_of_cell h0
  have l1 : 1 < w.heap.size := lt_of_cell h1
  have l2 : 2 < w.heap.size := lt_of_cell h2
  have l3 : fe < w.heap.size := hf.lt
  have l4 : fe < w.heap.size + 1 := by omega
  have l5 : 1 < w.heap.size + 1 := by omega
  have l6 : 2 < w.heap.size + 1 := by omega
  clear hq hb hf
  go_enter Tryz.func30, Tryz.ntmps30
  go_wp2_with fail
  go_region
  all_goals
    go_wp2_with fail
    go_region
  all_goals
    go_wp2
    (try simp only [Exit.inBlock, Exit.then])
    exact bodyPost_ret (results_cell_row rfl _ _ w.heap.size 32 _ (0, 0) _ rfl (blk2 w _ _) Tryz.underlying32 rfl Tryz.info32) rfl ⟨rfl, (kp2 _ _ _).drew.drew⟩
end Go.Proofs.Qxb6615582aGreatFmt
