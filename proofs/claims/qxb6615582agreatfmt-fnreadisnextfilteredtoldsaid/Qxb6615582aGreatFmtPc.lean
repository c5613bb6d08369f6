/-
  WHAT THE ROWS' LISTED VARIABLES GIVE A WALK, AND A WORLD THAT MEETS THE CONDITION. The frame: the guide's Derived/Test/ToyasProofs.lean, PortTold.lean, turned to this program.
-/
import Derived.Test.Qxb6615582aGreatFmtTie
import Derived.Test.Qxb6615582aGreatFmtCards
import Derived.Test.Qxb6615582aGreatFmtNr2
import Derived.ProofKit
import Derived.OpenShut
import Derived.ShutString
import Derived.ChangeOld
import Derived.Below
import Derived.LaidMore
import Derived.LaidLaws
import Derived.LaidHandle
import Derived.Lay
import Derived.SevenTiedAt
import Derived.Stop.Joined
import Derived.Stop.JoinedTold
import Derived.Stop.LaidErr
import Derived.Lib.LaidU8T
import Derived.PinnedBridge
import Derived.RowKitTokens
import Derived.Deep.Strs
namespace Go.Proofs.Qxb6615582aGreatFmt
open Go.ChangeShapes Go.WideShapes Go.ChangeAt Go.RowKit

theorem own : ownKnob Tryz.prog.godebug = none := by kernel_rfl
theorem laidOut : laidOutB Tryz.prog = true := by kernel_rfl

/-- The listed variables, as both rows list them. -/
def LA : List (String × DataW Unit) := Rows.fnNextMatchesModelRow.laid
/-- Those that are no handles. -/
def LL : List (String × DataW Unit) := LA.filter fun x => x.2.handleName?.isNone
theorem la4 : Rows.fnNextMatchesModelRow.laid = LA := rfl
theorem la5 : Rows.fnReadIsNextFilteredRow.laid = LA := rfl
theorem la_handle : (LA.filter fun x => x.2.handleName?.isSome) = [("errors.errorType", Rows.laid_errors_errorType)] := by rfl
theorem la_parts {W : World} (h : laidMetH Tryz.prog LA W) : laidMet Tryz.prog LL W ∧ handlesMet Tryz.prog [("errors.errorType", Rows.laid_errors_errorType)] W := by
  unfold laidMetH at h
  rw [la_handle] at h
  exact h

/-! ### the handle -/
theorem et : Tryz.prog.globalNamed "errors.errorType" = some 5 := by kernel_rfl
theorem handle_of {W : World} (h : laidMetH Tryz.prog LA W) : W.cell? ⟨5, 0, none⟩ = some (.iface 143 (.agg #[.pointer (some ⟨14, 52, none⟩)])) := by
  obtain ⟨name, u, ty, e1, e2, e3, e4, e5⟩ := (la_parts h).2 _ (List.mem_singleton.2 rfl)
  have en : name = [101, 114, 114, 111, 114] := (Option.some.inj e1).symm
  subst en
  have rt : 143 = u := Option.some.inj (Eq.trans (Eq.symm (by kernel_rfl)) e2)
  subst rt
  have hm : ty ∈ (List.range Tryz.prog.types.size).filter fun t => Tryz.prog.rowNamed t [101, 114, 114, 111, 114] := List.mem_filter.2 ⟨List.mem_range.2 e3, e4⟩
  have oneRow : ((List.range Tryz.prog.types.size).filter fun t => Tryz.prog.rowNamed t [101, 114, 114, 111, 114]) = [52] := by kernel_rfl
  rw [oneRow] at hm
  obtain rfl := List.mem_singleton.1 hm
  have hh : typeHandle Tryz.prog 52 = .pointer (some ⟨14, 52, none⟩) := by kernel_rfl
  rw [hh] at e5
  simpa using World.var?_cell et e5 0

/-! ### the sentinels -/
/-- The name of the sentinels' type. -/
def esn : String := match (Rows.laid_io_EOF : DataW Unit) with
  | .iface n _ => n
  | _ => ""
theorem row95 (u : TypeId) (h : Tryz.prog.typeName? 3 u = some esn) : u = 95 :=
  typeName_ptr_named (nm := "errors.errorString") (by kernel_rfl) (by kernel_rfl) (by decide) u (h.trans (by decide))
set_option maxRecDepth 100000 in
theorem sent_of {n : String} {text : List UInt8} {r : List (String × DataW Unit)} {W : World} {g : Nat}
    (h : laidMet Tryz.prog ((n, .iface esn (.ptr (.agg [.lit (.string text)]))) :: r) W) (hg : Tryz.prog.globalNamed n = some g) (ht : (Tryz.prog.globals[g]?).map (·.type) = some 52) :
    ∃ (a : Addr) (s : ByteArray), Er W g a ∧ W.cell? a = some (.string s) ∧ s.data.toList = text := by
  obtain ⟨ps, ⟨g0, t0, cs0, f0, p0, q0, hg0, ht0, hv0, hd0, _, e0⟩, _, hrows⟩ := h
  obtain rfl := Option.some.inj (hg.symm.trans hg0)
  obtain rfl := Option.some.inj (ht.symm.trans ht0)
  subst e0
  obtain ⟨l0⟩ := cs0
  have ok0 : ∀ u v, l0 = [.iface u v] → Value.okWide Tryz.prog W .any 0 u v := fun u v e => by
    subst e
    exact (hrows g 0 (by simp [MemPlace.row])).2 u v (by simpa using World.var?_cell hg0 hv0 0)
  obtain ⟨a0, s0, rfl, hc0, hs0, hz0, rfl⟩ := errorString_of_trod Tryz.underlying52 row95 Tryz.underlying95 Tryz.underlying97 rfl rfl Tryz.underlying9 (by kernel_rfl) (by kernel_rfl) hd0 ok0
  obtain ⟨c0, t0, hb0⟩ := (hrows a0.block a0.off (by simp [MemPlace.row])).1
  exact ⟨a0, s0, ⟨by unfold ev; simpa using World.var?_cell hg0 hv0 0, c0, t0, hb0⟩, hc0, hs0⟩
theorem sent_ne {W : World} {a b : Addr} {s t : ByteArray} {x y : List UInt8} (ha : W.cell? a = some (.string s)) (hb : W.cell? b = some (.string t)) (hs : s.data.toList = x) (ht : t.data.toList = y) (h : x ≠ y) : a ≠ b := by
  rintro rfl
  rw [ha] at hb
  cases hb
  exact h (hs.symm.trans ht)

/-! ### the two tables -/
def u8ren : Shelf.Ren := ⟨fun n => n, fun | 119 => 107 | 138 => 109 | 139 => 110 | n => n, fun n => n⟩
theorem u8types : U8Types Tryz.prog u8ren := { t5 := Tryz.underlying5, t119 := Tryz.underlying107, t138 := Tryz.underlying109, t139 := Tryz.underlying110 }
theorem u8extra : U8Extra Tryz.prog u8ren := { n3 := by kernel_rfl, n4 := by kernel_rfl, y3 := by kernel_rfl, y4 := by kernel_rfl, c5 := by kernel_rfl, c119 := by kernel_rfl, c138 := by kernel_rfl }
theorem accept_eq : (Rows.laid_unicode_utf8_acceptRanges : DataW Unit) = Lib.acceptData := by kernel_rfl
theorem first_eq : Rows.laid_unicode_utf8_first = Lib.firstData := Pinned.utf8First_eq
theorem tabs_of {W : World} (h : laidMet Tryz.prog LL W) : Lib.Utf8Tabs 3 4 W := by
  refine utf8Tabs_of_readsT (ρ := u8ren) u8types u8extra ?_ ?_
  · rw [← first_eq]
    exact Lib.laidMet.reads h (List.mem_filter.2 ⟨by simp [LA, Rows.fnNextMatchesModelRow], by kernel_rfl⟩)
  · rw [← accept_eq]
    exact Lib.laidMet.reads h (List.mem_filter.2 ⟨by simp [LA, Rows.fnNextMatchesModelRow], by kernel_rfl⟩)

/-- All that the walks ask of the package-level variables. -/
theorem gw_of {W : World} (h : laidMetH Tryz.prog LA W) : ∃ ae ab aq abq, Gw W.heap.size W ae ab aq abq := by
  have hl := (la_parts h).1
  obtain ⟨ae, s0, e0, c0, x0⟩ := sent_of (g := 0) hl.tail (by kernel_rfl) (by kernel_rfl)
  obtain ⟨ab, s8, e8, c8, x8⟩ := sent_of (g := 8) hl.tail.tail.tail.tail (by kernel_rfl) (by kernel_rfl)
  obtain ⟨abq, s2, e2, c2, x2⟩ := sent_of (g := 2) hl.tail.tail.tail.tail.tail.tail (by kernel_rfl) (by kernel_rfl)
  obtain ⟨aq, s1, e1, c1, x1⟩ := sent_of (g := 1) hl.tail.tail.tail.tail.tail.tail.tail (by kernel_rfl) (by kernel_rfl)
  exact ⟨ae, ab, aq, abq, e0, e8, e1, e2, sent_ne c0 c8 x0 x8 (by decide), sent_ne c1 c2 x1 x2 (by decide), tabs_of hl, handle_of h, lt_of_cell e8.cell, lt_of_cell c0, lt_of_cell c8, lt_of_cell c1, lt_of_cell c2⟩

/-! ### a world that meets the condition -/
def layH (w0 : World) : World :=
  { w0 with heap := w0.heap.modify 5 fun
      | .cells _ t frozen => .cells #[.iface 143 (.agg #[.pointer (some ⟨14, 52, none⟩)])] t frozen
      | o => o }
def laidW (P : Program) (w0 : World) : World := (layH w0).layVars P LL
theorem laidW_os (os : Os) : (laidW Tryz.prog (World.holding Tryz.prog os ⟨#[], #[], []⟩)).os = os := (World.layVars_os _ _ _).trans rfl
theorem laidW_plain (os : Os) (args : Array Value) : laidMet Tryz.prog LL ((laidW Tryz.prog (World.holding Tryz.prog os ⟨#[], #[], []⟩)).forCall (fun _ _ => 0) ⟨#[], args, []⟩).memory := by
  have e1 : (LL.filter fun x => (LL.map (·.1)).contains x.1) = LL := List.filter_eq_self.2 fun x hx => List.contains_iff_mem.2 (List.mem_map.2 ⟨x, hx, rfl⟩)
  have e2 : (LL.filter fun x => !(LL.map (·.1)).contains x.1) = [] := List.filter_eq_nil_iff.2 fun x hx => by rw [List.contains_iff_mem.2 (List.mem_map.2 ⟨x, hx, rfl⟩)]; simp
  have h : laidMet Tryz.prog LL (laidW Tryz.prog (World.holding Tryz.prog os ⟨#[], #[], []⟩)) := laidMet_layVars (w0 := layH (World.holding Tryz.prog os ⟨#[], #[], []⟩)) (LL.map (·.1)) [] (by rw [e1]; rfl) (by rw [e1]; kernel_rfl) (by rw [e1]; kernel_rfl) (by rw [e2]; exact LaidIn.none)
  exact h.of_heap (by simp [World.memory, World.forCall, Input.heap])
theorem laidW_met (os : Os) (args : Array Value) (ha : args = #[.slice none 0 0, .slice none 0 0]) : laidMetH Tryz.prog LA ((laidW Tryz.prog (World.holding Tryz.prog os ⟨#[], #[], []⟩)).forCall (fun _ _ => 0) ⟨#[], args, []⟩).memory := by
  subst ha
  refine laidMetH_of_parts ?_ ?_
  · exact laidW_plain os _
  · rw [la_handle]; kernel_rfl
end Go.Proofs.Qxb6615582aGreatFmt
