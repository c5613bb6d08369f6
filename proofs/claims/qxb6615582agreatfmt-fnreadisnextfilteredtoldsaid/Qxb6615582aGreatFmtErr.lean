import Derived.Test.Qxb6615582aGreatFmtRlw
import Derived.LaidEql
namespace Go.Proofs.Qxb6615582aGreatFmt
open Go.RowKit

theorem Tryz.comp95 : (Tryz.prog.info? 95).map (·.comparable) = some true := by kernel_rfl
theorem Tryz.size97 : (Tryz.prog.info? 97).map (·.size) = some 1 := by kernel_rfl
/-- A sentinel error: the variable g holds a pointer to a, whose block is at hand. -/
structure Er (w : World) (g : Nat) (a : Addr) : Prop where
  cell : w.cell? ⟨g, 0, none⟩ = some (ev a)
  blk : ∃ ca ta, w.heap[a.block]? = some (.cells ca ta (0, 0))
theorem Er.kept {w w' : World} {F : Nat → Prop} {g : Nat} {a : Addr} (h : Er w g a) (hk : Kp F w w') (hg : ¬ F g) (ha : ¬ F a.block) : Er w' g a := by
  obtain ⟨ca, ta, hb⟩ := h.blk
  exact ⟨by rw [hk.cell (lt_of_cell h.cell) hg]; exact h.cell, ca, ta, by rw [hk.block a.block (Array.getElem?_eq_some_iff.1 hb).1 ha]; exact hb⟩
theorem Er.same {w : World} (a : Addr) : Sem.run Tryz.prog (binOp .eql 52 (.iface 95 (.pointer (some a))) (.iface 95 (.pointer (some a)))) w = .ok (.bool true) w := by
  have hc := Tryz.comp95
  have hs := Tryz.size97
  cases hi : Tryz.prog.info? 95 with
  | none => simp [hi] at hc
  | some i =>
    cases hj : Tryz.prog.info? 97 with
    | none => simp [hj] at hs
    | some j =>
      exact run_eql_iface_ptr_same w a Tryz.underlying52 Tryz.underlying95 hi (by simpa [hi] using hc) hj
theorem Er.other {w : World} {g1 g2 : Nat} {a b : Addr} (ha : Er w g1 a) (hb : Er w g2 b) (hne : a ≠ b) : Sem.run Tryz.prog (binOp .eql 52 (.iface 95 (.pointer (some a))) (.iface 95 (.pointer (some b)))) w = .ok (.bool false) w := by
  have hc := Tryz.comp95
  have hs := Tryz.size97
  obtain ⟨ca, ta, ha⟩ := ha.blk
  obtain ⟨cb, tb, hb⟩ := hb.blk
  cases hi : Tryz.prog.info? 95 with
  | none => simp [hi] at hc
  | some i =>
    cases hj : Tryz.prog.info? 97 with
    | none => simp [hj] at hs
    | some j =>
      have hsz : j.size = 1 := by simpa [hj] using hs
      exact run_eql_iface_ptr_other w Tryz.underlying52 Tryz.underlying95 hi (by simpa [hi] using hc) hj (by rw [hsz]; decide) hne ha hb
/-- A sentinel error that lies outside the reader's blocks. -/
structure Es (w : World) (T : Nat → Nat) (g : Nat) (a : Addr) : Prop where
  er : Er w g a
  tg : T g = 0
  ta : T a.block = 0
theorem Es.lt {w : World} {T : Nat → Nat} {g : Nat} {a : Addr} (h : Es w T g a) : g < w.heap.size ∧ a.block < w.heap.size := by
  obtain ⟨ca, ta, hb⟩ := h.er.blk
  exact ⟨lt_of_cell h.er.cell, (Array.getElem?_eq_some_iff.1 hb).1⟩
theorem Es.kept {w w' : World} {T T' : Nat → Nat} {g : Nat} {a : Addr} (h : Es w T g a) (hk : Kp (Fl T) w w') (he : Ext w T T') : Es w' T' g a :=
  ⟨h.er.kept hk (by unfold Fl; have := h.tg; omega) (by unfold Fl; have := h.ta; omega), by rw [he.old g h.lt.1]; exact h.tg, by rw [he.old _ h.lt.2]; exact h.ta⟩
theorem Es.keptK {w w' : World} {T : Nat → Nat} {g : Nat} {a : Addr} (h : Es w T g a) (hk : Kp (Fl T) w w') : Er w' g a :=
  h.er.kept hk (by unfold Fl; have := h.tg; omega) (by unfold Fl; have := h.ta; omega)
theorem Er.nil {w : World} (a : Addr) : Sem.run Tryz.prog (binOp .eql 52 .nilIface (.iface 95 (.pointer (some a)))) w = .ok (.bool false) w := run_eql_iface_nil_left w 95 _ Tryz.underlying52
/-- append by its run, in a plain region. -/
theorem wpList_app {P : Program} {ops : Array Oper} {rest : List Oper} {o : Oper} {a : Act} {w w' : World} {Q : Exit → Act → World → Prop} (hgd : o.guard = none) (s x : Operand) (t : TypeId)
    (ho : o.op = .call { callee := .builtin .append, args := #[s, x], argTypes := #[t, t] }) {v sv v' : Value} (hs : a.eval s = v) (hx : a.eval x = sv) (hrun : Sem.run P (Builtin.append_ #[t, t] o.type #[v, sv]) w = .ok v' w') (h : wpList P ops Q rest (a.put o.dst v') w') : wpList P ops Q (o :: rest) a w := by
  refine wpList_plain hgd fun K hK => ?_
  unfold Oper.wp execOp
  simp only [ho, resolve, invoke, builtin, Sem.run_bind, Sem.run_pure, Result.andThen_ok, List.map_toArray, List.map_cons, List.map_nil, hs, hx, hrun]
  exact hK _ _ h
/-- append by its run, at a step of a region that draws. -/
theorem step_app {P : Program} {ops : Array Oper} {o : Oper} {a : Act} {w w' : World} {K : Act → World → Prop} {Q : Exit → Act → World → Prop} {E : Prop} (hgd : o.guard = none) (s x : Operand) (t : TypeId)
    (ho : o.op = .call { callee := .builtin .append, args := #[s, x], argTypes := #[t, t] }) {v sv v' : Value} (hs : a.eval s = v) (hx : a.eval x = sv) (hrun : Sem.run P (Builtin.append_ #[t, t] o.type #[v, sv]) w = .ok v' w') (h : K (a.put o.dst v') w') : if Region.wanted o (yielded ops a.tmps) = true then Oper.wp P o a w K Q else E := by
  have hw : Region.wanted o (yielded ops a.tmps) = true := by simp [Region.wanted, hgd]
  rw [if_pos hw]
  unfold Oper.wp execOp
  simp only [ho, resolve, invoke, builtin, Sem.run_bind, Sem.run_pure, Result.andThen_ok, List.map_toArray, List.map_cons, List.map_nil, hs, hx, hrun]
  exact h
end Go.Proofs.Qxb6615582aGreatFmt
