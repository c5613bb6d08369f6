/-
  THE TOLD AND TIED CARD of 'FnReadIsNextFiltered', PROVED. The frame: the guide's Derived/Test/PortTold.lean and PortSeven.lean, turned to this program.
-/
import Derived.Test.Qxb6615582aGreatFmtPo
import Derived.Test.Qxb6615582aGreatFmtLd
namespace Go.Proofs.Qxb6615582aGreatFmt
open Go.ChangeShapes Go.WideShapes Go.ChangeAt Go.RowKit

set_option maxRecDepth 100000 in
theorem witness5 (os : Os) {H : Type} (enc : TypeId × Value → H) (F : Go.Stop.Interp) :
    ∃ (w : World) (tape : Tape) (i : Input), w.os = os ∧ (w.forCall tape i).Shaped Tryz.prog ∧ i.vars = [] ∧ Input.okWide Tryz.prog (w.forCall tape i) .any w.heap.size 5 i ∧
      (OpenSpec.ofChange Rows.fnReadIsNextFilteredSpec).preRow enc Tryz.prog Tryz.f5 Rows.fnReadIsNextFilteredRow.domain false Rows.fnReadIsNextFilteredRow.laid (w.forCall tape i).memory i.args ∧ ({} : Assume).holds Tryz.prog (lone (Frame.enter Tryz.prog 5 i.args .normal) [] (w.forCall tape i)) ∧ F.answers tape := by
  have hok : Input.okWideB Tryz.prog ((laidW Tryz.prog (World.holding Tryz.prog os ⟨#[], #[], []⟩)).forCall (fun _ _ => 0) ⟨#[], #[.slice none 0 0, .slice none 0 0], []⟩) 5 ⟨#[], #[.slice none 0 0, .slice none 0 0], []⟩ = true := by kernel_rfl
  exact ⟨laidW Tryz.prog (World.holding Tryz.prog os ⟨#[], #[], []⟩), F.over fun _ _ => 0, ⟨#[], #[.slice none 0 0, .slice none 0 0], []⟩, laidW_os os, World.shaped_of_ZipB (by kernel_rfl) (by kernel_rfl), (Input.okWide_of_okWideB (base := 0) hok).1, (Input.okWide_of_okWideB hok).2,
    OpenSpec.preRow_of_B rfl 8 (by kernel_rfl) (by kernel_rfl) (by rw [la5]; exact laidW_met os _ rfl), by
      simp only [Assume.holds]
      exact ⟨by simp, by simp, fun h => (by cases h), by simp, by simp⟩, F.over_answers _⟩

set_option maxRecDepth 100000 in
set_option maxHeartbeats 4000000 in
theorem lifted5 (os : Os) (started : os.Started) (H : Type) (enc : TypeId × Value → H) :
    ReturnsInTold none {} Tryz.checked os 5 .any Input.okWide ((OpenSpec.ofChange Rows.fnReadIsNextFilteredSpec).preRow enc Tryz.prog Tryz.f5 Rows.fnReadIsNextFilteredRow.domain false Rows.fnReadIsNextFilteredRow.laid)
      (fun F => ((OpenSpec.ofChange Rows.fnReadIsNextFilteredSpec).at F).post enc Tryz.prog Tryz.f5 false true false false) (aloneAtReturn Tryz.prog) nothingAlways := by
  refine returnsInTold_of_row (C := Tryz.checked) (s := OpenSpec.ofChange Rows.fnReadIsNextFilteredSpec) (by kernel_rfl) own started (by kernel_rfl) Tryz.func5 (fun F => witness5 os enc F) ?_
  intro F W base args ds gs before _ hF hval0 hW _ _ _ hL _
  have hval : ∀ (j : Nat) t v, Tryz.f5.params[j]? = some t → args[j]? = some v → Value.okWide Tryz.prog W .any base t v := hval0
  have hW' := hW
  obtain ⟨p, q, hA0, hV, rfl, hfz, hnd⟩ := hW
  have hA : DataW.TrodAll enc Tryz.prog W 0 (fun _ => true) true Tryz.f5.params.toList args.toList ds p := hA0
  rw [Tryz.params5] at hA hval
  obtain ⟨v0, vs0, d0, ds0, p0, q0, hargs, rfl, rfl, h0, r0⟩ := trodAll_cons hA
  obtain ⟨v1, vs1, d1, ds1, p1, q1, rfl, rfl, rfl, h1, r1⟩ := trodAll_cons r0
  obtain ⟨rfl, rfl, rfl⟩ := trodAll_nil r1
  obtain rfl : args = #[v0, v1] := by cases args; simp_all
  obtain ⟨rfl, rfl⟩ := trodVars_none hV
  obtain ⟨a0, len0, cap0, rfl⟩ := okWide_slice Tryz.underlying22 (hval 0 22 v0 rfl rfl)
  obtain ⟨a1, len1, cap1, rfl⟩ := okWide_slice Tryz.underlying23 (hval 1 23 v1 rfl rfl)
  have lt0 : ∀ x ∈ p0, x.block < W.heap.size := by obtain ⟨m, hm⟩ := h0; exact DataW.trod_lt m _ _ _ hm
  have lt1 : ∀ x ∈ p1, x.block < W.heap.size := by obtain ⟨m, hm⟩ := h1; exact DataW.trod_lt m _ _ _ hm
  obtain ⟨D, rfl, hD, hDn, hDl⟩ := open_bytes h0
  obtain ⟨cs, rfl, hS, hSn, hSl, hSz⟩ := open_cols h1
  have hL' : laidMetH Tryz.prog LA W := hL
  obtain ⟨ae, ab, aq, abq, hg⟩ := gw_of hL'
  clear hA0 hval0
  refine (law5_c (F := F.told) hF hD hDn hDl hS hSn hSl hSz hg (Nat.le_refl _)).mono fun e W' ⟨he, hk⟩ => ?_
  subst he
  have bel := hk.belowF
  exact ⟨_, rfl, _, _, _, [], _, [], hW', trodAll_mk1 (shut_bool Tryz.underlying4 _), (trodAll_cons_mk (Below.trod laidOut (by kernel_rfl) (of_decide_eq_true (by kernel_rfl)) h0 bel lt0) (trodAll_cons_mk (Below.trod laidOut (by kernel_rfl) (of_decide_eq_true (by kernel_rfl)) h1 bel lt1) trodAll_mk0)), rfl, bel.frame _, fun h => by cases h⟩

theorem stops : Tryz.pinned.checked.prog.stops = Rows.fnReadIsNextFilteredRow.stops := by kernel_rfl
theorem stopKnobs : Tryz.pinned.checked.prog.stopKnobs = [] := by kernel_rfl
theorem quiet (os : Os) : Stop.quiet Tryz.pinned.checked.prog os := by
  intro k hk
  rw [stopKnobs] at hk
  cases hk

/-- THE STATEMENT: the told and tied card. -/
theorem card5_holds : Rows.FnReadIsNextFilteredToldSaid :=
  Claim7.holds_of_told_tied_any_at .later 5 Tryz.f5 _ _ [] _ _ _ _ _ (by kernel_rfl) rfl rfl rfl laidOut (by kernel_rfl) rfl ⟨rfl, rfl, rfl, rfl, rfl, rfl, rfl⟩ rfl rfl (by kernel_rfl) (by kernel_rfl) Tryz.func5 (by kernel_rfl)
    (of_decide_eq_true (by kernel_rfl)) (of_decide_eq_true (by kernel_rfl)) stops.symm rfl stopKnobs.symm (by kernel_rfl)
    (by kernel_rfl) (by kernel_rfl) (by kernel_rfl) (by kernel_rfl) (by kernel_rfl) (by kernel_rfl) (by kernel_rfl) (by kernel_rfl) (by kernel_rfl) rfl (by kernel_rfl) rfl rfl
    rfl rfl
    rfl (by kernel_rfl) (by kernel_rfl) (by kernel_rfl) (by decide) (by kernel_rfl) fnReadIsNextFiltered_row_tie
    (OpenClaim.moreEntering_of (by kernel_rfl) (by kernel_rfl) (by kernel_rfl) (by kernel_rfl) (by kernel_rfl) (by kernel_rfl) (by kernel_rfl) (by kernel_rfl) (by kernel_rfl) (by kernel_rfl))
    ⟨_, WideRow.started_initial, quiet _⟩
    (fun os started _ H enc _ => lifted5 os started H enc)
end Go.Proofs.Qxb6615582aGreatFmt
