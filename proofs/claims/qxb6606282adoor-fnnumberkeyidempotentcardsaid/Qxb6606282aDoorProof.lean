/-
  THE ROW AND THE TIED CARD of 'FnNumberKeyIdempotent', PROVED. The frame: the guide's proof-skeleton.mjs and Derived/Test/PinupProofs.lean, turned to this program.
-/
import Derived.Test.Qxb6606282aDoorTie
import Derived.Test.Qxb6606282aDoorCards
import Derived.Test.Qxb6606282aDoorLaw
import Derived.ProofKit
import Derived.OpenShut
import Derived.ShutString
import Derived.ChangeOld
import Derived.Below
import Derived.LaidMore
import Derived.Lay
import Derived.SevenTiedAt
import Derived.Stop.Joined
import Derived.Shelf.Vars
import Derived.Shelf.Strconv.Itoa4
import Derived.Lib.LaidTab
import Derived.Lib.LaidU8
import Derived.Lib.SmallJoins
namespace Go.Proofs.Qxb6606282aDoor
open Go.ChangeShapes Go.WideShapes Go.ChangeAt Go.RowKit
open Go.ChangeMaps (open_string shut_string)

theorem own : ownKnob Tryd.prog.godebug = none := by kernel_rfl
theorem laidOut : laidOutB Tryd.prog = true := by kernel_rfl

/-- The kit's wrap with a premise on the world, the world's shape kept besides. -/
theorem handed_and_shaped {H : Type} {enc : TypeId × Value → H} {a : Assume} {C : Checked} {os : Os} {f : FuncId} {fn : Func} {s : ChangeSpec} {conds : List PathCond} {apart fresh handsOn again : Bool} {X : World → Array Value → Prop}
    (hX : ∀ (w w' : World) (args : Array Value), w.heap = w'.heap → X w args → X w' args)
    (own : ownKnob C.prog.godebug = none) (started : os.Started) (noInit : C.prog.inits.idxOf? f = none) (hfn : C.prog.funcs[f]? = some fn)
    (witness : ∃ (w : World) (tape : Tape) (i : Input), w.os = os ∧ (w.forCall tape i).Shaped C.prog ∧ i.vars = [] ∧ Input.okWide C.prog (w.forCall tape i) .any w.heap.size f i ∧
      ((s.pre enc C.prog fn conds apart (w.forCall tape i).memory i.args ∧ X (w.forCall tape i).memory i.args) ∧ sizedMet enc C.prog fn (OpenSpec.ofChange s) apart (w.forCall tape i).memory i.args) ∧ a.holds C.prog (lone (Frame.enter C.prog f i.args .normal) [] (w.forCall tape i)))
    (contract : ∀ (W : World) (base : Nat) (args : Array Value) (ds gs : List (DataW H)) (before : List MemPlace),
      (∀ (j : Nat) t v, fn.params[j]? = some t → args[j]? = some v → Value.okWide C.prog W .any base t v) →
      DataW.Whole enc C.prog fn.params.toList s.vars apart W args.toList ds gs before →
      X W args → W.ShapedOpen C.prog →
      Calls C.prog f args W fun e W' => ∃ v, e = .returned v ∧ s.post enc C.prog fn apart fresh handsOn again W args v W') :
    ReturnsInHanded a C os f .any (fun w args => (s.pre enc C.prog fn conds apart w args ∧ X w args) ∧ sizedMet enc C.prog fn (OpenSpec.ofChange s) apart w args) (s.post enc C.prog fn apart fresh handsOn again) := by
  refine returnsInHanded_of_calls own started noInit witness ?_
  intro w tape i _ hsh _ hok hpre _
  obtain ⟨_, _, _, fn', hfn', _, _, _, _, hval⟩ := hok
  have e : fn' = fn := Option.some.inj (hfn'.symm.trans hfn)
  subst e
  obtain ⟨⟨⟨ds, gs, before, hw, _⟩, hx⟩, _⟩ := hpre
  have hw' := DataW.Whole.of_heap (w' := w.forCall tape i) (by rfl) hw
  refine (contract (w.forCall tape i) w.heap.size i.args ds gs before hval hw' (hX _ _ _ (by rfl) hx) hsh).mono fun e W' ⟨v, he, hp⟩ => ?_
  subst he
  exact ChangeSpec.post_blind hp

theorem maxLen_cell {W : World} (h : W.ShapedOpen Tryd.prog) : ∃ m, W.cell? ⟨0, 0, none⟩ = some (.int .i64 m) :=
  cell_of_shapedOpen_int (zero := #[.int .i64 0]) (t := 3) h (of_decide_eq_true (by kernel_rfl)) (by kernel_rfl) rfl (by kernel_rfl) (by kernel_rfl) Tryd.underlying3

theorem below_grown (w : World) (q : Nat) (os : Array Obj) : Below w.heap.size w (Sort.grow (w.drewN q) os) :=
  ⟨rfl, rfl, rfl, by simp [Sort.grow], fun i hi => by
    show ((w.drewN q).heap ++ os)[i]? = _
    rw [Array.getElem?_append_left (by show i < w.heap.size; omega)]
    rfl⟩
/-- A listed table's reading, wherever it stands on the list. -/
theorem tab_of {P : Program} {W : World} {name : String} {k : IntKind} {zs : List Int} {g : Nat} {t e : TypeId} {n : Nat} {d : DataW Unit}
    (hg : P.globalNamed name = some g) (hty : (P.globals[g]?).map (·.type) = some t) (ht : P.underlying t = some (.array n e)) (he : P.underlying e = some (.int k)) (hce : P.cellsOf e = 1) (hct : P.cellsOf t = n)
    (hd : d = Lib.tabData k zs) (h : Lib.VarReads P W name d) : Lib.TabIs P W name k zs := by
  subst hd
  obtain ⟨g', t', cs, fuel, p, hg', ht', hvar, hr⟩ := h
  obtain rfl := Option.some.inj (hg.symm.trans hg')
  obtain rfl := Option.some.inj (hty.symm.trans ht')
  unfold Lib.TabIs
  rw [hvar, ← Lib.cells_of_tab ht he hce hct hr]
/-- FormatInt's table, as listed. -/
theorem env_of {W : World} (h : laidMet Tryd.prog Rows.fnNumberKeyIdempotentRow.laid W) (hm : ∃ m, W.cell? ⟨0, 0, none⟩ = some (.int .i64 m)) : Env W := by
  refine ⟨fun w hb n h0 h1 => (Any.strconv_FormatInt_10 Tryd.laysM173 n h0 h1 w ?_).mono ?_, hm⟩
  · refine Joins.tab_stays (g := 6) (by kernel_rfl) ?_ hb (Nat.le_refl _)
    exact tab_of (g := 6) (t := 121) (e := 48) (n := 20) (by kernel_rfl) (by kernel_rfl) (by kernel_rfl) (by kernel_rfl) (by kernel_rfl) (by kernel_rfl) rfl (Lib.laidMet.reads h (d := Rows.laid_internal_strconv_uint64pow10) (.tail _ (.tail _ (.head _))))
  · rintro e w' ⟨rfl, k, os, rfl⟩
    exact ⟨_, rfl, by simp, below_grown w k os⟩

/-! ### the row's step -/
set_option maxRecDepth 100000 in
theorem lifted (os : Os) (started : os.Started) (H : Type) (enc : TypeId × Value → H) :
    ReturnsInHanded {} Tryd.checked os 4 .any (fun w args => (Rows.fnNumberKeyIdempotentSpec.pre enc Tryd.prog Tryd.f4 Rows.fnNumberKeyIdempotentRow.domain false w args ∧ laidMetH Tryd.prog Rows.fnNumberKeyIdempotentRow.laid w) ∧ sizedMet enc Tryd.prog Tryd.f4 (OpenSpec.ofChange Rows.fnNumberKeyIdempotentSpec) false w args)
      (Rows.fnNumberKeyIdempotentSpec.post enc Tryd.prog Tryd.f4 false true false false) := by
  refine handed_and_shaped (C := Tryd.checked) (X := fun w _ => laidMetH Tryd.prog Rows.fnNumberKeyIdempotentRow.laid w) (fun _ _ _ hh h => h.of_heap hh) own started (by kernel_rfl) Tryd.func4
    (ChangeSpec.witness_shaped (enc := enc) (C := Tryd.checked) (os := os) (X := fun w _ => laidMetH Tryd.prog Rows.fnNumberKeyIdempotentRow.laid w) false (World.laidAll Tryd.prog os Rows.fnNumberKeyIdempotentRow.laid) #[.string ByteArray.empty] 8 (World.laidAll_os _ _ _)
      (World.shaped_of_ZipB (by kernel_rfl) (by kernel_rfl)) (by kernel_rfl) (by kernel_rfl) (by kernel_rfl)
      (by rw [MakeChecks.laidMetH_plain _ _ _ (by kernel_rfl)]; exact laidMet_laidAll _ (by kernel_rfl) (by kernel_rfl))) ?_
  intro W base args ds gs before hval0 hW hlaid hsh
  have hval : ∀ (j : Nat) t v, Tryd.f4.params[j]? = some t → args[j]? = some v → Value.okWide Tryd.prog W .any base t v := hval0
  have hW' := hW
  obtain ⟨p, q, hA0, hV, rfl, hfz, hnd⟩ := hW
  have hA : DataW.TrodAll enc Tryd.prog W 0 (fun _ => true) true Tryd.f4.params.toList args.toList ds p := hA0
  rw [Tryd.params4] at hA hval
  obtain ⟨v0, vs0, d0, ds0, p0, q0, hargs, rfl, rfl, h0, r0⟩ := trodAll_cons hA
  obtain ⟨rfl, rfl, rfl⟩ := trodAll_nil r0
  obtain rfl : args = #[v0] := by cases args; simp_all
  obtain ⟨rfl, rfl⟩ := trodVars_none hV
  obtain ⟨a0, rfl, rfl, rfl, w0⟩ := open_string Tryd.underlying9 (hval 0 9 v0 rfl rfl) h0
  clear hA0 hval0
  rw [MakeChecks.laidMetH_plain _ _ _ (by kernel_rfl)] at hlaid
  refine (law_any (env_of hlaid (maxLen_cell hsh)) a0).mono fun e W' ⟨he, bel⟩ => ?_
  subst he
  exact ⟨_, rfl, _, _, _, [], _, [], hW', trodAll_mk1 (shut_bool Tryd.underlying4 _), (trodAll_mk1 (shut_string Tryd.underlying9 w0)), rfl, bel.frame _, fun h => by cases h⟩

theorem row_holds : Rows.FnNumberKeyIdempotentSaid :=
  OpenClaim.holds_of_wide 4 Tryd.f4 rfl rfl rfl rfl rfl rfl rfl ⟨rfl, rfl, rfl, rfl, rfl⟩ rfl rfl rfl rfl rfl (by kernel_rfl) Tryd.func4 (by kernel_rfl)
    (of_decide_eq_true (by kernel_rfl)) (by unfold Func.isWrapper; first | (rw [if_pos (by decide +kernel)]; kernel_rfl) | (rw [if_neg (by decide +kernel)]; exact ⟨rfl, rfl⟩))
    (fun os started H enc _ => lifted os started H enc)

/-- THE STATEMENT: the tied card. -/
theorem card_holds : Rows.FnNumberKeyIdempotentCardSaid :=
  Claim7.holds_tied_plain_at .later [] [.data, .data, .data, .data, .sentinel, .sentinel, .pinned, .pinned] true (true, "26971ab099f2b02bb80a5563e813998599e0abc0ef4f1e1c48d3d65d29764f54") true row_holds (fun _ h => by cases h) (by kernel_rfl) (fun _ h => by cases h) fnNumberKeyIdempotent_row_tie rfl ⟨rfl, rfl⟩ (by kernel_rfl) rfl
    (fun f fn hf hfn => by
      obtain rfl : f = 4 := Option.some.inj ((show Tryd.prog.funcNamed Rows.fnNumberKeyIdempotentRow.func = some 4 by kernel_rfl).symm.trans hf) |>.symm
      obtain rfl : fn = Tryd.f4 := (Option.some.inj (Tryd.func4.symm.trans hfn)).symm
      exact ⟨by kernel_rfl, fun j t ht => by
        rw [Tryd.params4] at ht
        have hm : t ∈ [9] := by simpa using Array.mem_of_getElem? ht
        have hall : ([9].all fun u => !Tryd.prog.wantsStandIn u) = true := by kernel_rfl
        exact (show Tryd.prog.wantsStandIn t = false by simpa using List.all_eq_true.1 hall t hm)⟩)
    (by kernel_rfl)
end Go.Proofs.Qxb6606282aDoor
