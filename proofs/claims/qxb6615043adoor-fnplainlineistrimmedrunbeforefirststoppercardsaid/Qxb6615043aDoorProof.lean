/-
  THE ROW AND THE TIED CARD of 'FnPlainLineIsTrimmedRunBeforeFirstStopper', PROVED. The frame: the guide's proof-skeleton.mjs and Derived/Test/PinupProofs.lean, turned to this program.
-/
import Derived.Test.Qxb6615043aDoorTie
import Derived.Test.Qxb6615043aDoorCards
import Derived.Test.Qxb6615043aDoorLawNil
import Derived.ProofKit
import Derived.OpenShut
import Derived.ShutString
import Derived.ChangeOld
import Derived.Below
import Derived.LaidMore
import Derived.Lay
import Derived.SevenTiedAt
import Derived.Stop.Joined
import Derived.Lib.LaidU8T
import Derived.PinnedBridge
namespace Go.Proofs.Qxb6615043aDoor
open Go.ChangeShapes Go.WideShapes Go.ChangeAt Go.RowKit

theorem own : ownKnob Tryd.prog.godebug = none := by kernel_rfl
theorem laidOut : laidOutB Tryd.prog = true := by kernel_rfl

/-! ### the two tables -/
def u8ren : Shelf.Ren := ⟨fun n => n, fun | 119 => 55 | 138 => 57 | 139 => 58 | n => n, fun | 3 => 0 | 4 => 1 | n => n⟩
theorem u8types : U8Types Tryd.prog u8ren := { t5 := Tryd.underlying5, t119 := Tryd.underlying55, t138 := Tryd.underlying57, t139 := Tryd.underlying58 }
theorem u8extra : U8Extra Tryd.prog u8ren := { n3 := by kernel_rfl, n4 := by kernel_rfl, y3 := by kernel_rfl, y4 := by kernel_rfl, c5 := by kernel_rfl, c119 := by kernel_rfl, c138 := by kernel_rfl }
theorem accept_eq : (Rows.laid_unicode_utf8_acceptRanges : DataW Unit) = Lib.acceptData := by kernel_rfl
theorem first_eq : Rows.laid_unicode_utf8_first = Lib.firstData := Pinned.utf8First_eq
theorem tabs_of {W : World} (h : laidMetH Tryd.prog Rows.fnPlainLineIsTrimmedRunBeforeFirstStopperRow.laid W) : Lib.Utf8Tabs 0 1 W := by
  rw [MakeChecks.laidMetH_plain _ _ _ (by kernel_rfl)] at h
  refine utf8Tabs_of_readsT u8types u8extra ?_ ?_
  · rw [← first_eq]
    exact Lib.laidMet.reads h (by simp [Rows.fnPlainLineIsTrimmedRunBeforeFirstStopperRow])
  · rw [← accept_eq]
    exact Lib.laidMet.reads h (by simp [Rows.fnPlainLineIsTrimmedRunBeforeFirstStopperRow])

/-- WHAT THE WALK IS TOLD OF A SLICE OF INTEGERS THAT CAME IN. -/
def IsRow (k : IntKind) (w : World) (a : Option Addr) (len cap : Nat) (zs : List Int) : Prop :=
  (a = none ∧ len = 0 ∧ cap = 0 ∧ zs = []) ∨
  ∃ x, a = some x ∧ len ≤ cap ∧ cap ≤ maxLen ∧ zs.length = cap ∧ (∀ i, i < zs.length → w.cell? (x.add i) = some (.int k (zs.getD i 0))) ∧ ∀ n ∈ zs, (Lit.int k n).wf = true

theorem walk (a0 : Option Addr) (len0 cap0 : Nat) (z0 : List Int) (a1 : Int) (a2 : Int) (w : World) (w0 : IsRow .u8 w a0 len0 cap0 z0) (hT : Lib.Utf8Tabs 0 1 w) :
    Calls Tryd.prog 3 #[.slice a0 len0 cap0, .int .i64 a1, .int .i64 a2] w fun e w' => e = .returned (.bool true) ∧ Below w.heap.size w w' := by
  have hsz : 2 ≤ w.heap.size := by
    have := World.block_lt_of_cell? _ _ (hT.2 0 (by omega)).1
    exact this
  rcases w0 with ⟨rfl, rfl, rfl, rfl⟩ | ⟨x, rfl, hl, hm, hz, hcell, hwz⟩
  · exact law_nil hsz hT a1 a2
  · by_cases h0 : len0 = 0
    · subst h0
      exact law_empty x cap0 hsz hT a1 a2
    · obtain ⟨b, off, spot⟩ := x
      have hc0 := hcell 0 (by omega)
      have hspot : spot = none := by simpa [Addr.add] using World.cell?_spot hc0
      subst hspot
      have hbn : b < w.heap.size := by
        have := World.block_lt_of_cell? _ _ hc0
        rwa [add_plain] at this
      have hlen : (((z0.take len0).map fun z => UInt8.ofNat z.toNat)).length = len0 := by simp; omega
      have hat : At w b off ((z0.take len0).map fun z => UInt8.ofNat z.toNat) := by
        intro j hj
        rw [hlen] at hj
        have hcj := hcell j (by omega)
        rw [add_plain] at hcj
        rw [hcj]
        have hjz : j < z0.length := by omega
        have hmem : z0.getD j 0 ∈ z0 := by
          rw [List.getD, List.getElem?_eq_getElem hjz]; exact List.getElem_mem hjz
        have hb := bounds_u8 (hwz _ hmem)
        have e : fl ((z0.take len0).map fun z => UInt8.ofNat z.toNat) j = (z0.getD j 0).toNat := by
          unfold fl
          have : ((z0.take len0).map fun z => UInt8.ofNat z.toNat)[j]? = some (UInt8.ofNat (z0.getD j 0).toNat) := by
            rw [List.getElem?_map, List.getElem?_take, if_pos hj, List.getElem?_eq_getElem hjz]
            simp [List.getD, List.getElem?_eq_getElem hjz]
          rw [List.getD, this]
          simp only [Option.getD_some, UInt8.toNat_ofNat']
          omega
        rw [e]
        congr 2
        omega
      have hfin := law_any hat hbn cap0 (by rw [hlen]; exact hl) hsz hT a1 a2
      rw [hlen] at hfin
      exact hfin

/-! ### the row's step -/
set_option maxRecDepth 100000 in
theorem lifted (os : Os) (started : os.Started) (H : Type) (enc : TypeId × Value → H) :
    ReturnsInHanded {} Tryd.checked os 3 .any (fun w args => (Rows.fnPlainLineIsTrimmedRunBeforeFirstStopperSpec.pre enc Tryd.prog Tryd.f3 Rows.fnPlainLineIsTrimmedRunBeforeFirstStopperRow.domain false w args ∧ laidMetH Tryd.prog Rows.fnPlainLineIsTrimmedRunBeforeFirstStopperRow.laid w) ∧ sizedMet enc Tryd.prog Tryd.f3 (OpenSpec.ofChange Rows.fnPlainLineIsTrimmedRunBeforeFirstStopperSpec) false w args)
      (Rows.fnPlainLineIsTrimmedRunBeforeFirstStopperSpec.post enc Tryd.prog Tryd.f3 false true false false) := by
  refine returnsInHanded_of_change_and (C := Tryd.checked) (X := fun w _ => laidMetH Tryd.prog Rows.fnPlainLineIsTrimmedRunBeforeFirstStopperRow.laid w) (fun _ _ _ hh h => h.of_heap hh) own started (by kernel_rfl) Tryd.func3
    (ChangeSpec.witness_shaped (enc := enc) (C := Tryd.checked) (os := os) (X := fun w _ => laidMetH Tryd.prog Rows.fnPlainLineIsTrimmedRunBeforeFirstStopperRow.laid w) false (World.laidAll Tryd.prog os Rows.fnPlainLineIsTrimmedRunBeforeFirstStopperRow.laid) #[.slice none 0 0, .int .i64 0, .int .i64 0] 8 (World.laidAll_os _ _ _)
      (World.shaped_of_ZipB (by kernel_rfl) (by kernel_rfl)) (by kernel_rfl) (by kernel_rfl) (by kernel_rfl)
      (by rw [MakeChecks.laidMetH_plain _ _ _ (by kernel_rfl)]; exact laidMet_laidAll _ (by kernel_rfl) (by kernel_rfl))) ?_
  intro W base args ds gs before hval0 hW hc _ hL _
  have hval : ∀ (j : Nat) t v, Tryd.f3.params[j]? = some t → args[j]? = some v → Value.okWide Tryd.prog W .any base t v := hval0
  have hW' := hW
  obtain ⟨p, q, hA0, hV, rfl, hfz, hnd⟩ := hW
  have hA : DataW.TrodAll enc Tryd.prog W 0 (fun _ => true) true Tryd.f3.params.toList args.toList ds p := hA0
  rw [Tryd.params3] at hA hval
  obtain ⟨v0, vs0, d0, ds0, p0, q0, hargs, rfl, rfl, h0, r0⟩ := trodAll_cons hA
  obtain ⟨v1, vs1, d1, ds1, p1, q1, rfl, rfl, rfl, h1, r1⟩ := trodAll_cons r0
  obtain ⟨v2, vs2, d2, ds2, p2, q2, rfl, rfl, rfl, h2, r2⟩ := trodAll_cons r1
  obtain ⟨rfl, rfl, rfl⟩ := trodAll_nil r2
  obtain rfl : args = #[v0, v1, v2] := by cases args; simp_all
  obtain ⟨rfl, rfl⟩ := trodVars_none hV
  obtain ⟨a0, len0, cap0, rfl⟩ := okWide_slice Tryd.underlying22 (hval 0 22 v0 rfl rfl)
  have k0 := h0
  have lt0 : ∀ x ∈ p0, x.block < W.heap.size := by obtain ⟨m, hm⟩ := k0; exact DataW.trod_lt m _ _ _ hm
  obtain ⟨z0, w0⟩ : ∃ zs, IsRow .u8 W a0 len0 cap0 zs := by
    obtain ⟨fuel, hf⟩ := h0
    rcases open_ints Tryd.underlying22 Tryd.underlying5 (by kernel_rfl) hf with ⟨hcs, _⟩ | ⟨x, l, c, zs, hcs, _, hl, hm, hz, _, hcell, hwz⟩
    · simp [Value.cells] at hcs
      obtain ⟨rfl, rfl, rfl⟩ := hcs
      exact ⟨[], .inl ⟨rfl, rfl, rfl, rfl⟩⟩
    · simp [Value.cells] at hcs
      obtain ⟨rfl, rfl, rfl⟩ := hcs
      exact ⟨zs, .inr ⟨_, rfl, hl, hm, by simpa using hz, hcell, hwz⟩⟩
  obtain ⟨a1, rfl, rfl, rfl, w1⟩ := open_int Tryd.underlying3 (hval 1 3 v1 rfl rfl) h1
  obtain ⟨a2, rfl, rfl, rfl, w2⟩ := open_int Tryd.underlying3 (hval 2 3 v2 rfl rfl) h2
  clear hA0 hval0
  refine (walk a0 len0 cap0 z0 a1 a2 W w0 (tabs_of hL)).mono fun e W' ⟨he, bel⟩ => ?_
  subst he
  exact ⟨_, rfl, _, _, _, [], _, [], hW', trodAll_mk1 (shut_bool Tryd.underlying4 _), (trodAll_cons_mk (Below.trod laidOut (by kernel_rfl) (of_decide_eq_true (by kernel_rfl)) k0 bel lt0) (trodAll_cons_mk (shut_int Tryd.underlying3 w1) (trodAll_cons_mk (shut_int Tryd.underlying3 w2) trodAll_mk0))), rfl, bel.frame _, fun h => by cases h⟩

theorem row_holds : Rows.FnPlainLineIsTrimmedRunBeforeFirstStopperSaid :=
  OpenClaim.holds_of_wide 3 Tryd.f3 rfl rfl rfl rfl rfl rfl rfl ⟨rfl, rfl, rfl, rfl, rfl⟩ rfl rfl rfl rfl rfl (by kernel_rfl) Tryd.func3 (by kernel_rfl)
    (of_decide_eq_true (by kernel_rfl)) (by unfold Func.isWrapper; first | (rw [if_pos (by decide +kernel)]; kernel_rfl) | (rw [if_neg (by decide +kernel)]; exact ⟨rfl, rfl⟩))
    (fun os started H enc _ => lifted os started H enc)

/-- THE STATEMENT: the tied card. -/
theorem card_holds : Rows.FnPlainLineIsTrimmedRunBeforeFirstStopperCardSaid :=
  Claim7.holds_tied_plain_at .later [] [.data, .pinned] true (true, "9aef5c19f09ac5eafc744509f920ef7078c7064407d990d952d480c43aa21096") false row_holds (fun _ h => by cases h) (by kernel_rfl) (fun _ h => by cases h) fnPlainLineIsTrimmedRunBeforeFirstStopper_row_tie rfl ⟨rfl, rfl⟩ (by kernel_rfl) rfl
    (fun f fn hf hfn => by
      obtain rfl : f = 3 := Option.some.inj ((show Tryd.prog.funcNamed Rows.fnPlainLineIsTrimmedRunBeforeFirstStopperRow.func = some 3 by kernel_rfl).symm.trans hf) |>.symm
      obtain rfl : fn = Tryd.f3 := (Option.some.inj (Tryd.func3.symm.trans hfn)).symm
      exact ⟨by kernel_rfl, fun j t ht => by
        rw [Tryd.params3] at ht
        have hm : t ∈ [22, 3, 3] := by simpa using Array.mem_of_getElem? ht
        have hall : ([22, 3, 3].all fun u => !Tryd.prog.wantsStandIn u) = true := by kernel_rfl
        exact (show Tryd.prog.wantsStandIn t = false by simpa using List.all_eq_true.1 hall t hm)⟩)
    (by kernel_rfl)
end Go.Proofs.Qxb6615043aDoor
