/-
  THE TOLD AND TIED CARD of 'FnNextMatchesModel', PROVED. The frame: the guide's Derived/Test/PortTold.lean and PortSeven.lean, turned to this program.
-/
import Derived.Test.Qxb6615582aGreatFmtPc
import Derived.Test.Qxb6615582aGreatFmtLb
namespace Go.Proofs.Qxb6615582aGreatFmt
open Go.ChangeShapes Go.WideShapes Go.ChangeAt Go.RowKit

/-- A slice of bytes that came in. -/
theorem open_bytes {H : Type} {enc : TypeId × Value → H} {W : World} {a : Option Addr} {len cap : Nat} {d : DataW H} {p : List MemPlace} (h : DataW.Trod enc Tryz.prog W 0 (fun _ => true) true 22 (.slice a len cap) d p) :
    ∃ D : Bs, D.length = len ∧ Tx W a D ∧ (a = none → cap = 0) ∧ len ≤ 9223372036854775807 := by
  obtain ⟨fuel, hf⟩ := h
  rcases open_ints Tryz.underlying22 Tryz.underlying5 (by kernel_rfl) hf with ⟨hcs, _⟩ | ⟨x, l, c, zs, hcs, _, hl, hm, hz, _, hcell, hwz⟩
  · simp [Value.cells] at hcs
    obtain ⟨rfl, rfl, rfl⟩ := hcs
    exact ⟨[], rfl, fun h => absurd rfl h, fun _ => rfl, by omega⟩
  · simp [Value.cells] at hcs
    obtain ⟨rfl, rfl, rfl⟩ := hcs
    have hz' : zs.length = cap := by simpa using hz
    refine ⟨(zs.take len).map fun z => UInt8.ofNat z.toNat, by simp; omega, fun hn => ?_, (fun e => by cases e), by unfold maxLen at hm; omega⟩
    have hpos : 0 < len := by
      rcases Nat.eq_zero_or_pos len with e | e
      · subst e; simp at hn
      · exact e
    obtain ⟨b, off, spot⟩ := x
    have hc0 := hcell 0 (by omega)
    have hspot : spot = none := by simpa [Addr.add] using World.cell?_spot hc0
    subst hspot
    have hbn : b < W.heap.size := by
      have := World.block_lt_of_cell? _ _ hc0
      rwa [add_none] at this
    refine ⟨b, off, rfl, hbn, fun j hj => ?_⟩
    have hj' : j < len := by simp at hj; omega
    have hcj := hcell j (by omega)
    rw [add_none] at hcj
    rw [hcj]
    have hjz : j < zs.length := by omega
    have hmem : zs.getD j 0 ∈ zs := by
      rw [List.getD, List.getElem?_eq_getElem hjz]; exact List.getElem_mem hjz
    have hb := bounds_u8 (hwz _ hmem)
    have e : ((zs.take len).map fun z => UInt8.ofNat z.toNat)[j] = UInt8.ofNat (zs.getD j 0).toNat := by
      simp [List.getD, List.getElem?_eq_getElem hjz]
    rw [e]
    simp only [UInt8.toNat_ofNat']
    congr 2
    omega
/-- A slice of strings that came in. -/
theorem open_cols {H : Type} {enc : TypeId × Value → H} {W : World} {a : Option Addr} {len cap : Nat} {d : DataW H} {p : List MemPlace} (h : DataW.Trod enc Tryz.prog W 0 (fun _ => true) true 23 (.slice a len cap) d p) :
    ∃ cs : List ByteArray, cs.length = len ∧ Sv W a cs ∧ (a = none → cap = 0) ∧ len ≤ 9223372036854775807 ∧ ∀ s ∈ cs, s.size ≤ 9223372036854775807 := by
  obtain ⟨fuel, hf⟩ := h
  rcases Deep.open_strs Tryz.underlying23 Tryz.underlying9 (by kernel_rfl) hf with ⟨hcs, _⟩ | ⟨x, l, c, m, Sx, hcs, _, hl, hm, hmm, _, hcell⟩
  · simp [Value.cells] at hcs
    obtain ⟨rfl, rfl, rfl⟩ := hcs
    exact ⟨[], rfl, fun k h => absurd h (Nat.not_lt_zero _), fun _ => rfl, by omega, fun s hs => by cases hs⟩
  · simp [Value.cells] at hcs
    obtain ⟨rfl, rfl, rfl⟩ := hcs
    have hmc : m = cap := by simpa using hmm
    refine ⟨(List.range len).map Sx, by simp, fun k hk => ?_, (fun e => by cases e), by unfold maxLen at hm; omega, fun s hs => ?_⟩
    · have hk' : k < len := by simpa using hk
      have hck := (hcell k (by omega)).1
      obtain ⟨b, off, spot⟩ := x
      have hspot : spot = none := by
        have := World.cell?_spot (hcell 0 (by omega)).1
        simpa [Addr.add] using this
      subst hspot
      rw [add_none] at hck
      exact ⟨b, off, rfl, by rw [hck]; simp⟩
    · obtain ⟨i, hi, rfl⟩ := List.mem_map.1 hs
      have hi' := List.mem_range.1 hi
      have := (hcell i (by omega)).2
      unfold maxLen at this
      exact this

theorem Kp.belowF {w w' : World} (h : Kp (fun _ => False) w w') : Below w.heap.size w w' := ⟨h.os, h.tape, h.output, h.size, fun k hk => h.block k hk (fun e => e)⟩

set_option maxRecDepth 100000 in
theorem witness4 (os : Os) {H : Type} (enc : TypeId × Value → H) (F : Go.Stop.Interp) :
    ∃ (w : World) (tape : Tape) (i : Input), w.os = os ∧ (w.forCall tape i).Shaped Tryz.prog ∧ i.vars = [] ∧ Input.okWide Tryz.prog (w.forCall tape i) .any w.heap.size 4 i ∧
      (OpenSpec.ofChange Rows.fnNextMatchesModelSpec).preRow enc Tryz.prog Tryz.f4 Rows.fnNextMatchesModelRow.domain false Rows.fnNextMatchesModelRow.laid (w.forCall tape i).memory i.args ∧ ({} : Assume).holds Tryz.prog (lone (Frame.enter Tryz.prog 4 i.args .normal) [] (w.forCall tape i)) ∧ F.answers tape := by
  have hok : Input.okWideB Tryz.prog ((laidW Tryz.prog (World.holding Tryz.prog os ⟨#[], #[], []⟩)).forCall (fun _ _ => 0) ⟨#[], #[.slice none 0 0, .slice none 0 0], []⟩) 4 ⟨#[], #[.slice none 0 0, .slice none 0 0], []⟩ = true := by kernel_rfl
  exact ⟨laidW Tryz.prog (World.holding Tryz.prog os ⟨#[], #[], []⟩), F.over fun _ _ => 0, ⟨#[], #[.slice none 0 0, .slice none 0 0], []⟩, laidW_os os, World.shaped_of_ZipB (by kernel_rfl) (by kernel_rfl), (Input.okWide_of_okWideB (base := 0) hok).1, (Input.okWide_of_okWideB hok).2,
    OpenSpec.preRow_of_B rfl 8 (by kernel_rfl) (by kernel_rfl) (by rw [la4]; exact laidW_met os _ rfl), by
      simp only [Assume.holds]
      exact ⟨by simp, by simp, fun h => (by cases h), by simp, by simp⟩, F.over_answers _⟩

set_option maxRecDepth 100000 in
set_option maxHeartbeats 4000000 in
theorem lifted4 (os : Os) (started : os.Started) (H : Type) (enc : TypeId × Value → H) :
    ReturnsInTold none {} Tryz.checked os 4 .any Input.okWide ((OpenSpec.ofChange Rows.fnNextMatchesModelSpec).preRow enc Tryz.prog Tryz.f4 Rows.fnNextMatchesModelRow.domain false Rows.fnNextMatchesModelRow.laid)
      (fun F => ((OpenSpec.ofChange Rows.fnNextMatchesModelSpec).at F).post enc Tryz.prog Tryz.f4 false true false false) (aloneAtReturn Tryz.prog) nothingAlways := by
  refine returnsInTold_of_row (C := Tryz.checked) (s := OpenSpec.ofChange Rows.fnNextMatchesModelSpec) (by kernel_rfl) own started (by kernel_rfl) Tryz.func4 (fun F => witness4 os enc F) ?_
  intro F W base args ds gs before _ hF hval0 hW _ _ _ hL _
  have hval : ∀ (j : Nat) t v, Tryz.f4.params[j]? = some t → args[j]? = some v → Value.okWide Tryz.prog W .any base t v := hval0
  have hW' := hW
  obtain ⟨p, q, hA0, hV, rfl, hfz, hnd⟩ := hW
  have hA : DataW.TrodAll enc Tryz.prog W 0 (fun _ => true) true Tryz.f4.params.toList args.toList ds p := hA0
  rw [Tryz.params4] at hA hval
  obtain ⟨v0, vs0, d0, ds0, p0, q0, hargs, rfl, rfl, h0, r0⟩ := trodAll_cons hA
  obtain ⟨v1, vs1, d1, ds1, p1, q1, rfl, rfl, rfl, h1, r1⟩ := trodAll_cons r0
  obtain ⟨rfl, rfl, rfl⟩ := trodAll_nil r1
  obtain rfl : args = #[v0, v1] := by cases args; simp_all
  obtain ⟨rfl, rfl⟩ := trodVars_none hV
  obtain ⟨a0, len0, cap0, rfl⟩ := okWide_slice Tryz.underlying22 (hval 0 22 v0 rfl rfl)
  obtain ⟨a1, len1, cap1, rfl⟩ := okWide_slice Tryz.underlying23 (hval 1 23 v1 rfl rfl)
  have lt0 : ∀ x ∈ p0, x.block < W.heap.size := by obtain ⟨m, hm⟩ := h0; exact DataW.trod_lt m _ _ _ hm
  have lt1 : ∀ x ∈ p1, x.block < W.heap.size := by obtain ⟨m, hm⟩ := h1; exact DataW.trod_lt m _ _ _ hm
  obtain ⟨D, rfl, hD, hDn, hDl⟩ := open_bytes h0
  obtain ⟨cs, rfl, hS, hSn, hSl, hSz⟩ := open_cols h1
  have hL' : laidMetH Tryz.prog LA W := hL
  obtain ⟨ae, ab, aq, abq, hg⟩ := gw_of hL'
  clear hA0 hval0
  refine (law4_c (F := F.told) hF hD hDn hDl hS hSn hSl hSz hg (Nat.le_refl _)).mono fun e W' ⟨he, hk⟩ => ?_
  subst he
  have bel := hk.belowF
  exact ⟨_, rfl, _, _, _, [], _, [], hW', trodAll_mk1 (shut_bool Tryz.underlying4 _), (trodAll_cons_mk (Below.trod laidOut (by kernel_rfl) (of_decide_eq_true (by kernel_rfl)) h0 bel lt0) (trodAll_cons_mk (Below.trod laidOut (by kernel_rfl) (of_decide_eq_true (by kernel_rfl)) h1 bel lt1) trodAll_mk0)), rfl, bel.frame _, fun h => by cases h⟩

theorem stops : Tryz.pinned.checked.prog.stops = Rows.fnNextMatchesModelRow.stops := by kernel_rfl
theorem stopKnobs : Tryz.pinned.checked.prog.stopKnobs = [] := by kernel_rfl
theorem quiet (os : Os) : Stop.quiet Tryz.pinned.checked.prog os := by
  intro k hk
  rw [stopKnobs] at hk
  cases hk

/-- THE STATEMENT: the told and tied card. -/
theorem card4_holds : Rows.FnNextMatchesModelToldSaid :=
  Claim7.holds_of_told_tied_any_at .later 4 Tryz.f4 _ _ [] _ _ _ _ _ (by kernel_rfl) rfl rfl rfl laidOut (by kernel_rfl) rfl ⟨rfl, rfl, rfl, rfl, rfl, rfl, rfl⟩ rfl rfl (by kernel_rfl) (by kernel_rfl) Tryz.func4 (by kernel_rfl)
    (of_decide_eq_true (by kernel_rfl)) (of_decide_eq_true (by kernel_rfl)) stops.symm rfl stopKnobs.symm (by kernel_rfl)
    (by kernel_rfl) (by kernel_rfl) (by kernel_rfl) (by kernel_rfl) (by kernel_rfl) (by kernel_rfl) (by kernel_rfl) (by kernel_rfl) (by kernel_rfl) rfl (by kernel_rfl) rfl rfl
    rfl rfl
    rfl (by kernel_rfl) (by kernel_rfl) (by kernel_rfl) (by decide) (by kernel_rfl) fnNextMatchesModel_row_tie
    (OpenClaim.moreEntering_of (by kernel_rfl) (by kernel_rfl) (by kernel_rfl) (by kernel_rfl) (by kernel_rfl) (by kernel_rfl) (by kernel_rfl) (by kernel_rfl) (by kernel_rfl) (by kernel_rfl))
    ⟨_, WideRow.started_initial, quiet _⟩
    (fun os started _ H enc _ => lifted4 os started H enc)
end Go.Proofs.Qxb6615582aGreatFmt
