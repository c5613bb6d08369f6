import Derived.Test.Qxb6615582aGreatFmtTl1
namespace Go.Proofs.Qxb6615582aGreatFmt
open Go.RowKit
section
variable {w0 : World} {T0 : Nat → Nat} {w : World} {T : Nat → Nat} {A : RA} {cB : Nat} {ae aq abq : Addr} {N st pB : Nat} {U : Bs} {n : Nat} {off : Int} {rb : Value} {ar : Option Addr} {cr : Nat} {af : Option Addr} {cf : Nat} {fp : Value} {R : Bs} {f : Nat → Value} {R2 : Act → World → Prop} {pe : Nat}
set_option maxRecDepth 1000000 in
set_option maxHeartbeats 8000000 in
theorem tl_none (h0 : f 0 = .pointer (some ⟨cB, 0, none⟩)) (h1 : f 1 = .slice none 0 0) (h7 : f 7 = .nilIface) (h8 : f 8 = .iface 83 (.pointer (some ⟨pe, 0, none⟩)))
    (hb : Blk w cB 73 (cc A.bI n off rb (.slice ar R.length cr) (.slice af 0 cf) fp)) (ho : w.ownsRow 0 5 1 (.slice ar R.length cr) R.length (bcs R))
    (hR2 : ∀ a', a'.defers = [] → a'.eval (.tmp 4) = .slice none 0 0 → a'.eval (.tmp 5) = .iface 83 (.pointer (some ⟨pe, 0, none⟩)) → R2 a' w) : (tl2 Tryz.f55.body).wp Tryz.prog (QR R2) (Fr f) w := by
  have hcv := conv_own ho
  have c2 : w.cell? ⟨cB, 2, none⟩ = some (.int .i64 (-1)) := hb.cell rfl
  have c11 : w.cell? ⟨cB, 11, none⟩ = some (.slice ar R.length cr) := hb.cell rfl
  have c12 : w.cell? ⟨cB, 12, none⟩ = some (.slice af 0 cf) := hb.cell rfl
  have HR2 := hide hR2
  clear hb ho hR2
  conv => arg 2; whnf
  unfold Fr
  rw [h0, h1, h7, h8]
  clear h0 h1 h7 h8
  go_wp2_with fail
  go_loop [512] (fun s => s = .int .i64 0) (fun _ => 0)
  case atStart => rfl
  case round =>
    obtain rfl := hrel
    go_wp2
    show R2 _ _
    exact HR2.out _ rfl rfl rfl
theorem Fill.strs {fs : List Bs} {B : Nat} {w' : World} (h : Fill w' B fs fs.length) (ht : T B = 0) (hl : B < w'.heap.size) : Strs w' T (.slice (some ⟨B, 0, none⟩) fs.length fs.length) fs := by
  obtain ⟨cur, h1, h2, h3⟩ := h.ex
  exact ⟨B, fs.length, rfl, Nat.le_refl _, ht, hl, fun k hk => h1.cell (h3 k hk hk)⟩
/-- readRecord's tail. -/
theorem tail_c {X : Out × Nat} {a : Act} (hI : ID w0 T0 A cB ae aq abq N st pB X.1 a w) (hX : X.2 = st) : (tl2 Tryz.f55.body).wp Tryz.prog (QR (Rt w0 T0 A cB ae aq abq N X)) a w := by
  obtain ⟨⟨h1, h2, g0, g1, g9, g10, g11⟩, g7, T, U, n, R, fs, ps, z, hrx, hR, hb, ph, hlen, hc⟩ := hI
  rw [frame_of a h1 h2]
  obtain ⟨off, rb, rec, fi, fp, hrr⟩ := hrx.rr
  obtain ⟨ar, cr, rfl, _⟩ := own_form hrr.orec
  obtain ⟨af, cf, rfl, _⟩ := own_form hrr.ofi
  obtain ⟨ap, cp, rfl, _⟩ := own_form hrr.ofp
  have hlt0 : ∀ k, w.heap.size ≤ k → T k = 0 := fun k hk => by
    rcases Nat.eq_zero_or_pos (T k) with e | e
    · exact e
    · have := hrr.rl.lt k (by omega); omega
  have hrx' : ∀ w', Kp (fun _ => False) w w' → Rx w0 T0 w' T A cB ae (N + 2) U n R (cumF 0 fs) ps := fun w' hk => ⟨⟨_, _, _, _, _, hrr.kept hk (fun _ e => e.elim)⟩, hrx.jx.step hk (fun _ e => e.elim) (fun _ _ => rfl), Nat.le_succ_of_le hrx.nb⟩
  rcases hc with ⟨g8, hd, hne⟩ | ⟨pe, ad, g8, hpe, hd⟩
  · refine tl_some (f := fun k => a.eval (.tmp k)) g0 g1 g7 g8 (.inl rfl) hrr hR rfl hb hne ?_
    intro a' w' B k1 k2 k3 k4 k5 k6 k7
    refine ⟨k1, _, _, T, U, n, R, _, ps, rfl, hrx' w' k7, hd.st, .inr (.inl ⟨hd.oc, k3, ?_, ?_, ?_⟩)⟩
    · rw [k2, hd.fs]; exact k4.strs (hlt0 B k5) k6
    · rw [k2]; rintro b o n c e; cases e; exact Nat.le_trans hrx.jx.kp.size k5
    · cases hp : ps with
      | nil => rw [hp] at hlen; exact absurd (List.eq_nil_of_length_eq_zero hlen.symm) hne
      | cons p r => exact ⟨p, rfl, by rw [hX]; exact ph p (by rw [hp]; rfl)⟩
  · have hst : St X.1.rest X.1.ln U n := by rcases hd with ⟨_, hd⟩ | ⟨_, hd⟩ <;> exact hd.st
    have hoc : (ad = aq ∧ X.1.oc = 2) ∨ (ad = abq ∧ X.1.oc = 3) := by
      rcases hd with ⟨e, hd⟩ | ⟨e, hd⟩
      · exact .inl ⟨e, hd.oc⟩
      · exact .inr ⟨e, hd.oc⟩
    have hpe' : ∀ w', Kp (fun _ => False) w w' → Pe w' T pe X.2 ad := fun w' hk => by
      obtain ⟨x, y, hb⟩ := hpe.ex
      rw [hX]
      exact ⟨⟨x, y, hb.kept hk (fun e => e)⟩, hpe.tag⟩
    by_cases hne : fs = []
    · subst hne
      refine tl_none (f := fun k => a.eval (.tmp k)) g0 g1 g7 g8 hrr.rl.blk hrr.orec ?_
      intro a' k1 k2 k3
      exact ⟨k1, _, _, T, U, n, R, _, ps, rfl, hrx' w (Kp.refl _ _), hst, .inr (.inr ⟨pe, ad, k3, hpe' w (Kp.refl _ _), hoc⟩)⟩
    · refine tl_some (f := fun k => a.eval (.tmp k)) g0 g1 g7 g8 (.inr ⟨pe, rfl⟩) hrr hR rfl hb hne ?_
      intro a' w' B k1 k2 k3 k4 k5 k6 k7
      exact ⟨k1, _, _, T, U, n, R, _, ps, rfl, hrx' w' k7, hst, .inr (.inr ⟨pe, ad, k3, hpe' w' k7, hoc⟩)⟩
end
end Go.Proofs.Qxb6615582aGreatFmt
