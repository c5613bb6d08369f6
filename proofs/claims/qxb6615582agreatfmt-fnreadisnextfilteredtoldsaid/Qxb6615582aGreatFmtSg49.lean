import Derived.Test.Qxb6615582aGreatFmtSg61
import Derived.Test.Qxb6615582aGreatFmtSg62
import Derived.Test.Qxb6615582aGreatFmtSg64
import Derived.Test.Qxb6615582aGreatFmtSg65
import Derived.Test.Qxb6615582aGreatFmtLvc

namespace Go.Proofs.Qxb6615582aGreatFmt
open Go.RowKit
attribute [local go_sem] Go.wp_at_zero Go.wp_at_succ
section
variable {w0 : World} {T0 : Nat → Nat} {w : World} {T : Nat → Nat} {A : RA} {cB : Nat} {ae ab aq abq : Addr} {N st pB qB : Nat} {U : Bs} {n : Nat} {off : Int} {rb : Value} {ar : Option Addr} {cr : Nat} {af : Option Addr} {cf : Nat} {ap : Option Addr} {cp : Nat} {ps : List (Int × Int)} {pl pc ql qc : Int} {fs : List Bs} {X : Out} {l buf : Bs} {b o cap N1 : Nat} {R : Bs} {ix : List Nat} {f : Nat → Value} {J R2 R3 : Act → World → Prop}
set_option maxRecDepth 1000000 in
set_option maxHeartbeats 8000000 in
theorem seg49 {K : Act → World → Prop} {k : Nat} (h0 : f 0 = .pointer (some ⟨cB, 0, none⟩)) (h6 : f 6 = .slice (some ⟨b, o, none⟩) N1 cap) (h18 : f 18 = .int .i64 k) (hW : Wk w0 T0 w T A cB ae N st pB U n off rb ar cr af cf ap cp R ix ps pl pc) (hlv : Lv w T (.slice (some ⟨b, o, none⟩) N1 cap) l) (hk : k ≤ l.length) (hx : R.length + k ≤ 3000000)
    (hK : ∀ f' wx T' ar' cr', Sm f f' → f' 18 = f 18 → Wk w0 T0 wx T' A cB ae N st pB U n off rb ar' cr' af cf ap cp (R ++ l.take k) ix ps pl pc → Kp (fun k => T k = 1 ∨ T k = 6) w wx → Old w T T' → K (Fr f') wx) : (rg Tryz.f55.body 49).wp Tryz.prog (Exit.then K (fun _ _ _ => False)) (Fr f) w := by
  obtain ⟨hN1, hcp1, hcp2, -⟩ := hlv.facts
  have hlt : (l.take k).length = k := by simp; omega
  have hlvt := hlv.take hk
  have HA := hide (fun (W : World) e1 e2 e3 e4 => Rr.app_line hW.rr hlvt W e1 e2 e3 e4 (by rw [hlt]; omega))
  have c11 : w.cell? ⟨cB, 11, none⟩ = some (.slice ar R.length cr) := hW.cell rfl
  have hk1 : (k : Int) ≤ cap := by omega
  have HW := hide hW
  have HK := hide hK
  have Hlt := hide hlt
  clear hW hK hlv hlvt hlt hN1
  conv => arg 2; whnf
  unfold Fr
  rw [h0, h6, h18]
  go_region_law ((refine step_app2 (by rfl) (.tmp 266) (.tmp 269) 22 (by rfl) (by rfl) (by rfl) (HA.out _ (by exact rfl) (by exact rfl) (by exact rfl) (by exact rfl)) ?_; rintro ao2 cap2 w2 ⟨d11, d12, d13, df, dk, hfin⟩; have Dk := hide dk; clear dk))
  all_goals
    obtain ⟨T1, r1, k1, q1⟩ := hfin.out _ rfl rfl rfl rfl
    exact K_of rfl rfl (HK.out _ _ T1 ao2 cap2 ⟨h0.symm, rfl, h6.symm, rfl, rfl, rfl, rfl, rfl, rfl, rfl⟩ h18.symm (HW.out.grow_rec (by rw [List.length_append, Hlt.out]) r1 k1 q1 (by rw [List.length_append, Hlt.out]; exact hx)) k1 q1)
end
end Go.Proofs.Qxb6615582aGreatFmt
