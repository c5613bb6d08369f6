/-
  errors.As at this program's target: the guide's worked example Derived/Test/ToyasAs.lean, turned to this program's numbers.
-/
import Derived.Test.Qxb6615582aGreatFmtNx1
import Derived.Stop.Asserts
import Derived.RowKitTokens
namespace Go.Proofs.Qxb6615582aGreatFmt
open Go.RowKit Go.Extern.Stop Go.Stop Go.Extern

/-- errors.As(nil, target). -/
theorem as_nil (t : Value) (w : World) :
    Calls Tryz.prog 45 #[.nilIface, t] w fun e w' => e = .returned (.bool false) ∧ w' = w := by
  go_enter Tryz.func45, Tryz.ntmps45
  go_wp2
  go_ret
  exact ⟨rfl, rfl⟩

theorem Tryz.valueOf27 (t : Addr) (w : World) : (ReflectliteValue.unpack (.iface 85 (.pointer (some t)))).run Tryz.prog w
    = .ok (.agg #[.pointer (some ⟨14, 85, none⟩), .pointer (some ⟨w.heap.size, 0, none⟩), .int .u64 150]) (w.alloc (.cells #[.pointer (some t)] 85)) := by kernel_rfl
theorem Tryz.type27 (a : Addr) (w : World) : (ReflectliteValue.methodAny (ReflectliteValue.valueError "reflectlite.Value.Type" 0) (fun t _ _ _ => ReflectliteType.toType t) #[.agg #[.pointer (some ⟨14, 85, none⟩), .pointer (some a), .int .u64 150]]).run Tryz.prog w
    = .ok (.iface 143 (.agg #[.pointer (some ⟨14, 85, none⟩)])) w := by kernel_rfl
theorem Tryz.methodKind (h : Value) (w : World) : (Go.method 319 143 (.agg #[h]) "Kind").run Tryz.prog w = .ok (111, h) w := by kernel_rfl
theorem Tryz.kind27 (w : World) : ((ReflectliteType.abiMethod fun t => (fun a : Nat => Value.int IntKind.u8 (a : Int)) <$> Rtype.kind t) #[.pointer (some ⟨14, 85, none⟩)]).run Tryz.prog w = .ok (.int .u8 22) w := by kernel_rfl
theorem Tryz.kind25 (w : World) : ((ReflectliteType.abiMethod fun t => (fun a : Nat => Value.int IntKind.u8 (a : Int)) <$> Rtype.kind t) #[.pointer (some ⟨14, 83, none⟩)]).run Tryz.prog w = .ok (.int .u8 22) w := by kernel_rfl

theorem rlm (z : Sem Value) (f : TypeId → Addr → Nat → Nat → Sem Value) (v : Value) :
    ReflectliteValue.method z f #[v] = (do match ← ReflectliteValue.parts v with | none => z | some (t, a, fl) => f t a fl (fl % 32)) := rfl
theorem Tryz.parts27 (a : Addr) (w : World) : (ReflectliteValue.parts (.agg #[.pointer (some ⟨14, 85, none⟩), .pointer (some a), .int .u64 150])).run Tryz.prog w = .ok (some (85, a, 150)) w := by kernel_rfl
/-- (Value).IsNil at the Value of a **csv.ParseError that is not nil. -/
theorem Tryz.isNil27 (a p : Addr) (W : World) (ha : W.cell? a = some (.pointer (some p))) :
    (ReflectliteValue.method (ReflectliteValue.valueError "reflectlite.Value.IsNil" 0) ReflectliteValue.isNil #[.agg #[.pointer (some ⟨14, 85, none⟩), .pointer (some a), .int .u64 150]]).run Tryz.prog W = .ok (.bool false) W := by
  rw [rlm]
  simp only [Sem.run_bind, Tryz.parts27, Result.andThen]
  simp [ReflectliteValue.isNil, loadVar, isAgg, underlying, Tryz.underlying85, ha, Result.andThen]

theorem Tryz.methodElem (h : Value) (w : World) : (Go.method 319 143 (.agg #[h]) "Elem").run Tryz.prog w = .ok (133, .agg #[h]) w := by kernel_rfl
theorem Tryz.methodImplements (h : Value) (w : World) : (Go.method 319 143 (.agg #[h]) "Implements").run Tryz.prog w = .ok (134, .agg #[h]) w := by kernel_rfl
theorem Tryz.methodAssignableTo (h : Value) (w : World) : (Go.method 319 143 (.agg #[h]) "AssignableTo").run Tryz.prog w = .ok (131, .agg #[h]) w := by kernel_rfl
theorem Tryz.elem27 (w : World) : (ReflectliteType.method ReflectliteType.elem #[.agg #[.pointer (some ⟨14, 85, none⟩)]]).run Tryz.prog w = .ok (.iface 143 (.agg #[.pointer (some ⟨14, 83, none⟩)])) w := by kernel_rfl
theorem Tryz.implements25 (w : World) : (ReflectliteType.relation "Implements" ReflectliteType.implements_ #[.agg #[.pointer (some ⟨14, 83, none⟩)], .iface 143 (.agg #[.pointer (some ⟨14, 52, none⟩)])]).run Tryz.prog w = .ok (.bool true) w := by kernel_rfl
theorem Tryz.typeOf25 (v : Value) (w : World) : (ReflectliteType.typeOf #[.iface 83 v]).run Tryz.prog w = .ok (.iface 143 (.agg #[.pointer (some ⟨14, 83, none⟩)])) w := by kernel_rfl
theorem Tryz.assignable25 (w : World) : (ReflectliteType.relation "AssignableTo" ReflectliteType.assignableTo #[.agg #[.pointer (some ⟨14, 83, none⟩)], .iface 143 (.agg #[.pointer (some ⟨14, 83, none⟩)])]).run Tryz.prog w = .ok (.bool true) w := by kernel_rfl
theorem Tryz.valueOf25 (e : Addr) (w : World) : (ReflectliteValue.unpack (.iface 83 (.pointer (some e)))).run Tryz.prog w
    = .ok (.agg #[.pointer (some ⟨14, 83, none⟩), .pointer (some ⟨w.heap.size, 0, none⟩), .int .u64 150]) (w.alloc (.cells #[.pointer (some e)] 83)) := by kernel_rfl

theorem Tryz.elemOf27 (w : World) : (Rtype.elem? 85).run Tryz.prog w = .ok (some 83) w := by kernel_rfl
theorem Tryz.mk25 (p : Addr) (w : World) : (ReflectliteValue.mk 83 p ReflectliteValue.flagAddr).run Tryz.prog w = .ok (.agg #[.pointer (some ⟨14, 83, none⟩), .pointer (some p), .int .u64 406]) w := by kernel_rfl
/-- (Value).Elem at the Value of a **csv.ParseError that is not nil: the Value of the *csv.ParseError variable that it points to, addressable. -/
theorem Tryz.elemV27 (a p : Addr) (W : World) (ha : W.cell? a = some (.pointer (some p))) :
    (ReflectliteValue.method (ReflectliteValue.valueError "reflectlite.Value.Elem" 0) ReflectliteValue.elem #[.agg #[.pointer (some ⟨14, 85, none⟩), .pointer (some a), .int .u64 150]]).run Tryz.prog W
      = .ok (.agg #[.pointer (some ⟨14, 83, none⟩), .pointer (some p), .int .u64 406]) W := by
  rw [rlm]
  simp only [Sem.run_bind, Tryz.parts27, Result.andThen]
  simp [ReflectliteValue.elem, loadVar, isAgg, underlying, Tryz.underlying85, ha, Result.andThen, Tryz.elemOf27, Tryz.mk25]
theorem Tryz.parts25a (a : Addr) (w : World) : (ReflectliteValue.parts (.agg #[.pointer (some ⟨14, 83, none⟩), .pointer (some a), .int .u64 406])).run Tryz.prog w = .ok (some (83, a, 406)) w := by kernel_rfl
theorem Tryz.parts25 (a : Addr) (w : World) : (ReflectliteValue.parts (.agg #[.pointer (some ⟨14, 83, none⟩), .pointer (some a), .int .u64 150])).run Tryz.prog w = .ok (some (83, a, 150)) w := by kernel_rfl
theorem Tryz.direct25 (w : World) : (Rtype.directlyAssignable 83 83).run Tryz.prog w = .ok true w := by kernel_rfl
theorem Tryz.size25 (w : World) : (sizeOf 83).run Tryz.prog w = .ok 1 w := by kernel_rfl
/-- The model's match on two arguments, at two arguments. -/
theorem m3 {m : Array Value → Sort _} (v x : Value) (h1 : (v x : Value) → m #[v, x]) (h2 : (a : Array Value) → m a) : ReflectliteValue.set.match_3 m #[v, x] h1 h2 = h1 v x := rfl
/-- (Value).Set: the *csv.ParseError variable at 'ta' gets what the Value's own variable 'b' holds. -/
theorem Tryz.set25 (ta b e : Addr) (old : Value) (W : World) (hb : W.cell? b = some (.pointer (some e))) (ht : W.cell? ta = some old) (hf : W.frozen? ta = false) :
    (ReflectliteValue.set #[.agg #[.pointer (some ⟨14, 83, none⟩), .pointer (some ta), .int .u64 406], .agg #[.pointer (some ⟨14, 83, none⟩), .pointer (some b), .int .u64 150]]).run Tryz.prog W
      = .ok (.tuple #[]) (W.setCell ta (.pointer (some e))) := by
  delta ReflectliteValue.set
  rw [m3]
  simp only [Sem.run_bind, Tryz.parts25a, Tryz.parts25, Result.andThen]
  simp [ReflectliteValue.flagAddr, loadVar, isAgg, underlying, Tryz.underlying83, hb, Result.andThen, Tryz.direct25, storeVar, Value.cells, storeCells, Addr.add]
  rw [run_store Tryz.prog W ta _ _ (by rfl)]
  simp [ht, hf]

set_option maxHeartbeats 4000000 in
theorem as_hit (e t : Addr) (old : Value) (w : World) (hg : w.cell? ⟨5, 0, none⟩ = some (.iface 143 (.agg #[.pointer (some ⟨14, 52, none⟩)]))) (ht0 : w.cell? t = some old) (hf0 : w.frozen? t = false) :
    Calls Tryz.prog 45 #[.iface 83 (.pointer (some e)), .iface 85 (.pointer (some t))] w fun ev w' => ev = .returned (.bool true) ∧ w' = ((((w.alloc (.cells #[.pointer (some t)] 85)).alloc (.cells #[.pointer (some ⟨14, 85, none⟩), .pointer (some ⟨w.heap.size, 0, none⟩), .int .u64 150] 116)).alloc (.cells #[.pointer (some ⟨14, 85, none⟩), .pointer (some ⟨w.heap.size, 0, none⟩), .int .u64 150] 116)).alloc (.cells #[.pointer (some e)] 83)).setCell t (.pointer (some e)) := by
  have h6 := @run_callFunc_extern Tryz.prog 56 _ (fun args => ReflectliteValue.unpack (args.getD 0 (.tuple #[]))) Tryz.func56 (by kernel_rfl) (by kernel_rfl) (by kernel_rfl) (by kernel_rfl)
  have h7 := @run_callFunc_extern Tryz.prog 57 _ (ReflectliteValue.methodAny (ReflectliteValue.valueError "reflectlite.Value.Type" 0) (fun t _ _ _ => ReflectliteType.toType t)) Tryz.func57 (by kernel_rfl) (by kernel_rfl) (by kernel_rfl) (by kernel_rfl)
  have h8 := @run_callFunc_extern Tryz.prog 58 _ (ReflectliteValue.method (ReflectliteValue.valueError "reflectlite.Value.IsNil" 0) ReflectliteValue.isNil) Tryz.func58 (by kernel_rfl) (by kernel_rfl) (by kernel_rfl) (by kernel_rfl)
  have h27 := @run_callFunc_extern Tryz.prog 111 _ (ReflectliteType.abiMethod fun t => do pure (.int .u8 (← Rtype.kind t))) Tryz.func111 (by kernel_rfl) (by kernel_rfl) (by kernel_rfl) (by kernel_rfl)
  have h37 := @run_callFunc_extern Tryz.prog 133 _ (ReflectliteType.method ReflectliteType.elem) Tryz.func133 (by kernel_rfl) (by kernel_rfl) (by kernel_rfl) (by kernel_rfl)
  have h38 := @run_callFunc_extern Tryz.prog 134 _ (ReflectliteType.relation "Implements" ReflectliteType.implements_) Tryz.func134 (by kernel_rfl) (by kernel_rfl) (by kernel_rfl) (by kernel_rfl)
  have h10 := @run_callFunc_extern Tryz.prog 75 _ ReflectliteType.typeOf Tryz.func75 (by kernel_rfl) (by kernel_rfl) (by kernel_rfl) (by kernel_rfl)
  have h35 := @run_callFunc_extern Tryz.prog 131 _ (ReflectliteType.relation "AssignableTo" ReflectliteType.assignableTo) Tryz.func131 (by kernel_rfl) (by kernel_rfl) (by kernel_rfl) (by kernel_rfl)
  have h11 := @run_callFunc_extern Tryz.prog 76 _ (ReflectliteValue.method (ReflectliteValue.valueError "reflectlite.Value.Elem" 0) ReflectliteValue.elem) Tryz.func76 (by kernel_rfl) (by kernel_rfl) (by kernel_rfl) (by kernel_rfl)
  have h12 := @run_callFunc_extern Tryz.prog 77 _ ReflectliteValue.set Tryz.func77 (by kernel_rfl) (by kernel_rfl) (by kernel_rfl) (by kernel_rfl)
  have tO := Tryz.typeOf25
  have mA := Tryz.methodAssignableTo
  have a25 := Tryz.assignable25
  have v25 := Tryz.valueOf25
  have f6 := Tryz.valueOf27
  have f7 := Tryz.type27
  have mK := Tryz.methodKind
  have mE := Tryz.methodElem
  have mI := Tryz.methodImplements
  have k27 := Tryz.kind27
  have k25 := Tryz.kind25
  have e27 := Tryz.elem27
  have i25 := Tryz.implements25
  have n8 := Tryz.isNil27 ⟨w.heap.size, 0, none⟩ t ((w.alloc (.cells #[.pointer (some t)] 85)).alloc (.cells #[.pointer (some ⟨14, 85, none⟩), .pointer (some ⟨w.heap.size, 0, none⟩), .int .u64 150] 116)) (by simp)
  have hlt : 5 < w.heap.size := by
    exact lt_of_cell hg
  have hg2 : ((w.alloc (.cells #[.pointer (some t)] 85)).alloc (.cells #[.pointer (some ⟨14, 85, none⟩), .pointer (some ⟨w.heap.size, 0, none⟩), .int .u64 150] 116)).cell? ⟨5, 0, none⟩ = some (.iface 143 (.agg #[.pointer (some ⟨14, 52, none⟩)])) := by
    rw [World.cell?_alloc_lt _ _ ⟨5, 0, none⟩ (by simp; omega), World.cell?_alloc_lt _ _ ⟨5, 0, none⟩ hlt]; exact hg
  have htl : t.block < w.heap.size := by
    rcases Nat.lt_or_ge t.block w.heap.size with h | h
    · exact h
    · simp [World.cell?, Array.getElem?_eq_none h] at ht0
  have el := Tryz.elemV27 ⟨w.heap.size, 0, none⟩ t (((w.alloc (.cells #[.pointer (some t)] 85)).alloc (.cells #[.pointer (some ⟨14, 85, none⟩), .pointer (some ⟨w.heap.size, 0, none⟩), .int .u64 150] 116)).alloc (.cells #[.pointer (some ⟨14, 85, none⟩), .pointer (some ⟨w.heap.size, 0, none⟩), .int .u64 150] 116)) (by rw [World.cell?_alloc_lt _ _ ⟨w.heap.size, 0, none⟩ (by simp; omega)]; simp)
  have st := Tryz.set25 t ⟨w.heap.size + 1 + 1 + 1, 0, none⟩ e old ((((w.alloc (.cells #[.pointer (some t)] 85)).alloc (.cells #[.pointer (some ⟨14, 85, none⟩), .pointer (some ⟨w.heap.size, 0, none⟩), .int .u64 150] 116)).alloc (.cells #[.pointer (some ⟨14, 85, none⟩), .pointer (some ⟨w.heap.size, 0, none⟩), .int .u64 150] 116)).alloc (.cells #[.pointer (some e)] 83))
    (by rw [World.cell?_alloc_at _ _ _ _ (by simp)]; rfl)
    (by rw [World.cell?_alloc_lt _ _ t (by simp; omega), World.cell?_alloc_lt _ _ t (by simp; omega), World.cell?_alloc_lt _ _ t (by simp; omega), World.cell?_alloc_lt _ _ t htl]; exact ht0)
    (by rw [World.frozen?_alloc_old _ _ t (by simp; omega), World.frozen?_alloc_old _ _ t (by simp; omega), World.frozen?_alloc_old _ _ t (by simp; omega), World.frozen?_alloc_old _ _ t (Nat.ne_of_lt htl)]; exact hf0)
  go_enter Tryz.func45, Tryz.ntmps45
  go_wp2
  refine wp_loop_rounds 1 ?_
  rw [rounds_succ]
  go_wp2
  go_ret
  exact ⟨rfl, rfl⟩
end Go.Proofs.Qxb6615582aGreatFmt
