import Derived.Test.Qxb6615582aGreatFmtRc1
import Derived.Test.Qxb6615582aGreatFmtRc2
import Derived.Test.Qxb6615582aGreatFmtRc3
import Derived.Test.Qxb6615582aGreatFmtRc4
import Derived.Test.Qxb6615582aGreatFmtRd0
import Derived.Test.Qxb6615582aGreatFmtRd1
import Derived.Test.Qxb6615582aGreatFmtRd2
import Derived.Test.Qxb6615582aGreatFmtRe
import Derived.Deep.LoopGhost
namespace Go.Proofs.Qxb6615582aGreatFmt
open Go.RowKit

theorem QY.elim {R3 R2 : Act → World → Prop} {e : Exit} {a : Act} {w : World} (h : QY R3 R2 e a w) : (e = .exit 3 ∧ R3 a w) ∨ (e = .exit 2 ∧ R2 a w) := by
  unfold QY at h
  split at h
  · exact .inl ⟨rfl, h⟩
  · exact .inr ⟨rfl, h⟩
  · exact h.elim
theorem QX.elim {R2 : Act → World → Prop} {e : Exit} {a : Act} {w : World} (h : QX R2 e a w) : e = .exit 2 ∧ R2 a w := by
  unfold QX at h
  split at h
  · exact ⟨rfl, h⟩
  · exact h.elim
section
variable {w0 : World} {T0 : Nat → Nat} {w : World} {A : RA} {cB : Nat} {ae ab aq abq : Addr} {N st pB qB : Nat} {X : Out} {f : Nat → Value} {J R2 R3 : Act → World → Prop}
/-- Inside quotes: one round. -/
theorem round4 {gk : Nat} {a : Act} (hI : IQ3 w0 T0 A cB ae N st pB qB X gk a w) (hg : G0 w0 T0 ae ab aq abq) (hN : N ≤ 1099511626000) (hJ : ∀ k a' w', k < gk → IQ3 w0 T0 A cB ae N st pB qB X k a' w' → J a' w') (hR3 : ∀ k a' w', k < gk → IF w0 T0 A cB ae N st pB X k a' w' → R3 a' w') (hR2 : ∀ a' w', ID w0 T0 A cB ae aq abq N st pB X a' w' → R2 a' w') :
    (bd4 Tryz.f55.body).wp Tryz.prog (Exit.then J (QY R3 R2)) a w := by
  obtain ⟨⟨h1, h2, g0, g1, g9, g10, g11⟩, g8, g17, g7, T, U, n, off, rb, ar, cr, af, cf, ap, cp, R, ix, ps, pl, pc, fs, buf, l, ql, qc, k1, k2, k3, k4, k5, k6, k7, k8, k9, k10, k11, rfl, k13⟩ := hI
  rw [frame_of a h1 h2]
  obtain ⟨b, o, cap, g6, _⟩ := k10.form
  rw [g6] at k10
  by_cases hl0 : l = []
  · exact rE (f := fun k => a.eval (.tmp k)) g0 g1 g6 g7 g8 g9 g10 g11 g17 k1 k2 k3 k4 k5 k6 k10 k11 hg hl0 hR2
  · have k1' := k1.nb' (k13 hl0)
    rcases part 34 l with h34 | ⟨x, l2, hl, hx⟩
    · by_cases hU : U = []
      · refine rD0 (f := fun k => a.eval (.tmp k)) g0 g1 g6 g7 g8 g9 g10 g11 g17 k1' k2 k3 k4 k5 k6 k7 k8 k9 k10 k11 hg hN hl0 h34 hU (fun a' w' h => hJ _ a' w' ?_ h)
        rw [hU]
        cases l with
        | nil => exact absurd rfl hl0
        | cons c r => show 0 + 0 < _; simp
      · have hrl := raw_len U hU
        have hlp : 0 < l.length := by cases l with | nil => exact absurd rfl hl0 | cons c r => simp
        by_cases hlx : trimCR (raw U).1 = []
        · exact rD1 (f := fun k => a.eval (.tmp k)) g0 g1 g6 g7 g8 g9 g10 g11 g17 k1' k2 k3 k4 k5 k6 k7 k8 k9 k10 k11 hg hN hl0 h34 hU hlx (fun a' w' h => hJ _ a' w' (by omega) h)
        · exact rD2 (f := fun k => a.eval (.tmp k)) g0 g1 g6 g7 g8 g9 g10 g11 g17 k1' k2 k3 k4 k5 k6 k7 k8 k9 k10 k11 hg hN hl0 h34 hU hlx (fun a' w' h => hJ _ a' w' (by omega) h)
    · have hll : l.length = x.length + 1 + l2.length := by rw [hl]; simp; omega
      cases l2 with
      | nil => exact rC3 (f := fun k => a.eval (.tmp k)) g0 g1 g6 g7 g8 g9 g10 g11 g17 k1' k2 k3 k4 k5 k6 k7 k8 k9 k10 k11 hg hl hx (.inr rfl) hR2
      | cons d l3 =>
        simp at hll
        by_cases hd1 : d = 34
        · subst hd1
          exact rC1 (f := fun k => a.eval (.tmp k)) g0 g1 g6 g7 g8 g9 g10 g11 g17 k1' k2 k3 k4 k5 k6 k7 k8 k9 k10 k11 hg hl hx rfl (fun a' w' h => hJ _ a' w' (by omega) h.up)
        · by_cases hd2 : d = 44
          · subst hd2
            exact rC2 (f := fun k => a.eval (.tmp k)) g0 g1 g6 g7 g8 g9 g10 g11 g17 k1' k2 k3 k4 k5 k6 k7 k8 k9 k10 k11 hg hl hx rfl (fun a' w' h => hR3 _ a' w' (by omega) h)
          · by_cases hd3 : lnl (d :: l3) = (d :: l3).length
            · have hln : Ln (d :: l3) U := by
                have h5 := k11.ln
                rw [hl] at h5
                exact Ln_drop (a := x ++ [34]) (by rw [List.append_assoc]; exact h5) (.inl (by simp))
              have h6 := (blank_iff (d :: l3) (by
                rcases hln with ⟨y, h7, h8⟩ | ⟨h7, _⟩
                · exact .inl ⟨y, h7, h8⟩
                · exact .inr h7)).1 hd3.symm
              exact rC3 (f := fun k => a.eval (.tmp k)) g0 g1 g6 g7 g8 g9 g10 g11 g17 k1' k2 k3 k4 k5 k6 k7 k8 k9 k10 k11 hg hl hx h6 hR2
            · exact rC4 (f := fun k => a.eval (.tmp k)) g0 g1 g6 g7 g8 g9 g10 g11 g17 k1' k2 k3 k4 k5 k6 k7 k8 k9 k10 k11 hg hl hx rfl hd1 hd2 hd3 hR2
/-- The loop inside quotes. -/
theorem loop4 {gk : Nat} {a : Act} (hI : IQ3 w0 T0 A cB ae N st pB qB X gk a w) (hg : G0 w0 T0 ae ab aq abq) (hN : N ≤ 1099511626000) (hR3 : ∀ k a' w', k < gk → IF w0 T0 A cB ae N st pB X k a' w' → R3 a' w') (hR2 : ∀ a' w', ID w0 T0 A cB ae aq abq N st pB X a' w' → R2 a' w') :
    (Code.loop (bd4 Tryz.f55.body)).wp Tryz.prog (QY R3 R2) a w := by
  refine wp_loop_ghost (fun k a w => k ≤ gk ∧ IQ3 w0 T0 A cB ae N st pB qB X k a w) gk ⟨Nat.le_refl _, hI⟩ ?_
  rintro k a' w' ⟨hk, hI'⟩
  exact round4 hI' hg hN (fun j a2 w2 hj h => ⟨j, hj, by omega, h⟩) (fun j a2 w2 hj h => hR3 j a2 w2 (by omega) h) hR2
end
end Go.Proofs.Qxb6615582aGreatFmt
