import Derived.Test.Qxb6615582aGreatFmtRd
import Derived.Deep.RegionLaw
namespace Go.Proofs.Qxb6615582aGreatFmt
open Go.RowKit
attribute [local go_sem] Go.wp_at_zero Go.wp_at_succ
section
variable {w0 : World} {T0 : Nat → Nat} {w : World} {T : Nat → Nat} {A : RA} {cB : Nat} {ae : Addr} {N st pB : Nat} {U : Bs} {n : Nat} {off : Int} {rb : Value} {ar : Option Addr} {cr : Nat} {af : Option Addr} {cf : Nat} {ap : Option Addr} {cp : Nat} {ps : List (Int × Int)} {pl pc : Int} {R : Bs} {ix : List Nat} {f : Nat → Value} {K : Act → World → Prop}
set_option maxRecDepth 1000000 in
set_option maxHeartbeats 8000000 in
theorem seg39 (h0 : f 0 = .pointer (some ⟨cB, 0, none⟩)) (hW : Wk w0 T0 w T A cB ae N st pB U n off rb ar cr af cf ap cp R ix ps pl pc) (hx : ix.length + 1 ≤ 3000000)
    (hK : ∀ f' wx T' af' cf', Sm f f' → Wk w0 T0 wx T' A cB ae N st pB U n off rb ar cr af' cf' ap cp R (ix ++ [R.length]) ps pl pc → Kp (fun k => T k = 1 ∨ T k = 7) w wx → Old w T T' → K (Fr f') wx) : (rg Tryz.f55.body 39).wp Tryz.prog (Exit.then K (fun _ _ _ => False)) (Fr f) w := by
  have HA := hide (fun (W : World) e1 e2 e3 e4 => Rr.app_fi hW.rr R.length W e1 e2 e3 e4 (by have := hW.lx; omega))
  have c11 : w.cell? ⟨cB, 11, none⟩ = some (.slice ar R.length cr) := hW.cell rfl
  have c12 : w.cell? ⟨cB, 12, none⟩ = some (.slice af ix.length cf) := hW.cell rfl
  have n12 := World.new_ne w _ c12
  have c12a : ∀ o, (w.alloc o).cell? ⟨cB, 12, none⟩ = some (.slice af ix.length cf) := fun o => (hW.rr.rl.blk.alloc o).cell rfl
  have HW := hide hW
  have HK := hide hK
  clear hW hK
  conv => arg 2; whnf
  unfold Fr
  rw [h0]
  go_region_law ((refine step_app2 (by rfl) (.tmp 217) (.tmp 223) 70 (by rfl) (by rfl) (by rfl) (HA.out _ (by exact rfl) (by exact rfl) (by exact rfl) (by exact rfl)) ?_; rintro ao2 cap2 w2 ⟨d11, d12, d13, df, dk, hfin⟩; have Dk := hide dk; clear dk))
  all_goals
    obtain ⟨T1, r1, k1, q1⟩ := hfin.out _ rfl rfl rfl rfl
    exact K_of rfl rfl (HK.out _ _ T1 ao2 cap2 ⟨h0.symm, rfl, rfl, rfl, rfl, rfl, rfl, rfl, rfl, rfl⟩ (HW.out.grow_fi (by rw [List.length_append]; rfl) r1 k1 q1 (by rw [List.length_append]; exact hx)) k1 q1)
end
end Go.Proofs.Qxb6615582aGreatFmt
