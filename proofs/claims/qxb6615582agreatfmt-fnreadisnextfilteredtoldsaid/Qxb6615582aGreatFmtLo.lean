import Derived.Test.Qxb6615582aGreatFmtRb
namespace Go.Proofs.Qxb6615582aGreatFmt
open Go.RowKit
section
variable {w0 : World} {T0 : Nat → Nat} {w : World} {A : RA} {cB : Nat} {ae ab aq abq : Addr} {N st pB : Nat} {X : Out} {J R2 : Act → World → Prop}
/-- One field. -/
theorem round2 {gk : Nat} {a : Act} (hI : IF w0 T0 A cB ae N st pB X gk a w) (hg : G0 w0 T0 ae ab aq abq) (hN : N ≤ 1099511626000) (hJ : ∀ k a' w', k < gk → IF w0 T0 A cB ae N st pB X k a' w' → J a' w') (hR2 : ∀ a' w', ID w0 T0 A cB ae aq abq N st pB X a' w' → R2 a' w') :
    (bd2 Tryz.f55.body).wp Tryz.prog (Exit.then J (QX R2)) a w := by
  obtain ⟨⟨h1, h2, g0, g1, g9, g10, g11⟩, g7, g8, T, U, n, fs, ps, pl, pc, l, hz, hlv, hfd, rfl⟩ := hI
  rw [frame_of a h1 h2]
  obtain ⟨b, o, cap, g6, _⟩ := hlv.form
  rw [g6] at hlv
  obtain ⟨off, rb, ar, cr, af, cf, ap, cp, hW⟩ := hz.walk
  by_cases hq : l.head? = some 34
  · cases l with
    | nil => cases hq
    | cons c l2 =>
      simp at hq
      subst hq
      exact rB (f := fun k => a.eval (.tmp k)) g0 g1 g6 g7 g8 g9 g10 g11 hz rfl rfl hW hlv hfd rfl hg hN hJ hR2
  · have hg2 : w.cell? ⟨2, 0, none⟩ = some (.iface 95 (.pointer (some abq))) := (hg.at_ hz.rx.jx).e2.er.cell
    rcases part 44 l with h44 | ⟨x, l2, hl, hx⟩
    · obtain ⟨a1, z, hl, hzl, hzz⟩ := hfd.ln.parted
      rcases part 34 a1 with h34 | ⟨x, y, hxy, hx⟩
      · by_cases hl0 : l = []
        · exact rA2e (f := fun k => a.eval (.tmp k)) g0 g1 g6 g7 g8 g9 g10 g11 hz rfl rfl hW hlv hfd hl0 hR2
        · exact rA2n (f := fun k => a.eval (.tmp k)) g0 g1 g6 g7 g8 g9 g10 g11 hz rfl rfl hW hlv hfd hl hzl hzz h44 h34 hl0 hq hR2
      · exact rA2q (f := fun k => a.eval (.tmp k)) g0 g1 g6 g7 g8 g9 g10 g11 hz rfl rfl hW hlv hfd hl hzl hzz h44 hxy hx hq hg2 hR2
    · have hll : l.length = x.length + 1 + l2.length := by rw [hl]; simp; omega
      rcases part 34 x with h34 | ⟨u, v, huv, hu⟩
      · exact rA1n (f := fun k => a.eval (.tmp k)) g0 g1 g6 g7 g8 g9 g10 g11 hz rfl rfl hW hlv rfl hfd hl hx h34 (fun a' w' h => hJ _ a' w' (by omega) h)
      · exact rA1q (f := fun k => a.eval (.tmp k)) g0 g1 g6 g7 g8 g9 g10 g11 hz rfl rfl hW hlv hfd hl hx huv hu hq hg2 hR2
/-- The loop over the fields. -/
theorem loop2 {gk : Nat} {a : Act} (hI : IF w0 T0 A cB ae N st pB X gk a w) (hg : G0 w0 T0 ae ab aq abq) (hN : N ≤ 1099511626000) (hR2 : ∀ a' w', ID w0 T0 A cB ae aq abq N st pB X a' w' → R2 a' w') :
    (Code.loop (bd2 Tryz.f55.body)).wp Tryz.prog (QX R2) a w := by
  refine wp_loop_ghost (fun k a w => IF w0 T0 A cB ae N st pB X k a w) gk hI ?_
  intro k a' w' hI'
  exact round2 hI' hg hN (fun j a2 w2 hj h => ⟨j, hj, h⟩) hR2
end
end Go.Proofs.Qxb6615582aGreatFmt
