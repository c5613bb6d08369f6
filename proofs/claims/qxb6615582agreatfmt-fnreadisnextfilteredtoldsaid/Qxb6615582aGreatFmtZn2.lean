import Derived.Test.Qxb6615582aGreatFmtZn1
namespace Go.Proofs.Qxb6615582aGreatFmt
open Go.RowKit

theorem Strs.keptF {w w' : World} {T : Nat → Nat} {v : Value} {fs : List Bs} {F : Nat → Prop} (h : Strs w T v fs) (hk : Kp F w w') (hF : ∀ b k s, w.cell? ⟨b, k, none⟩ = some (.string s) → ¬ F b) : Strs w' T v fs := by
  obtain ⟨b, cap, h1, h2, h3, h4, h5⟩ := h.ex
  exact ⟨b, cap, h1, h2, h3, Nat.lt_of_lt_of_le h4 hk.size, fun k hk2 => by rw [hk.cell (p := ⟨b, k, none⟩) h4 (hF b k _ (h5 k hk2))]; exact h5 k hk2⟩
/-- What ZZNext answers. -/
def ZxPost (B : Nat) (w : World) (T : Nat → Nat) (nB : Nat) (sb : Option Addr) (cols : Value) (N : Nat) (ae : Addr) (X : Out × Nat) (e : Ending) (w' : World) : Prop :=
  ∃ v P T', e = .returned (.tuple #[v, P]) ∧ Rdr B w' T' nB sb cols X.1.rest X.1.ln (N + 2) ae ∧ Kp (Fa T) w w' ∧ Old w T T' ∧
    ((X.1.oc = 1 ∧ v = .pointer none ∧ P = pv false true false 0 .empty false false false) ∨
     (X.1.oc = 0 ∧ P = pv true false false 0 .empty false false false ∧ ∃ lB fv, v = .pointer (some ⟨lB, 0, none⟩) ∧ Blk w' lB 42 #[.int .i64 X.2, fv, cols] ∧ T' lB = 0 ∧ Strs w' T' fv X.1.fs ∧ w.heap.size ≤ lB ∧ Nwv w fv) ∨
     ((X.1.oc = 2 ∨ X.1.oc = 3) ∧ v = .pointer none ∧ P = pv false false true X.2 .empty false (X.1.oc == 2) (X.1.oc == 3)))
theorem nx_parts {B c0 : Nat} {w : World} {T : Nat → Nat} {nB : Nat} {sb : Option Addr} {cols : Value} {N : Nat} {ae ab aq abq : Addr} {X : Out × Nat} {e : Ending} {w' : World} (hg : Gw B w ae ab aq abq) (hT : ∀ k, k < B → T k = 0) (h : NvPost B w T nB sb cols N ae aq abq X e w') (hc : T c0 = 0) (hcB : B ≤ c0) (hcn : c0 ≠ nB) (hsb : ∀ b o, sb = some ⟨b, o, none⟩ → b ≠ c0) {d0 : Array Value} (hb0 : Blk w c0 32 d0) (hd0 : ∀ (k : Nat) s, d0[k]? = some (.string s) → k = 4) (hd4 : ∃ b, d0[0]? = some (.bool b)) :
    ∃ v ve b0 b1 b2 l c b3 b4 b5, e = .returned (.tuple #[v, ve]) ∧ Blk w' c0 32 d0 ∧ Ep w' ve b0 b1 b2 l c b3 b4 b5 ∧ ∀ wx, Kp (fun k => k = c0) w' wx → ∀ w0, w0.heap.size ≤ c0 → Kp (fun _ => False) w0 w → ZxPost B w0 T nB sb cols N ae X (.returned (.tuple #[v, pv b0 b1 b2 l c b3 b4 b5])) wx := by
  obtain ⟨v, ve, T', rfl, hr, hk, ho, hcs⟩ := h
  have hg' := hg.kept hk (fun k hk2 e => e (hT k hk2))
  have hbc : Blk w' c0 32 d0 := hb0.kept hk (fun e => e hc)
  have hkx : ∀ w0 wx : World, w0.heap.size ≤ c0 → Kp (fun _ => False) w0 w → Kp (fun k => k = c0) w' wx → Kp (Fa T) w0 wx := fun w0 wx hs h0 hx => ((h0.mono (fun _ _ e => e.elim)).trans (hk.mono (fun k _ e => .inl e))).trans (hx.mono (fun k _ e => .inr (by omega)))
  have hox : ∀ w0 : World, Kp (fun _ => False) w0 w → Old w0 T T' := fun w0 h0 k hk2 => ho k (Nat.lt_of_lt_of_le hk2 h0.size)
  have hrx : ∀ wx, Kp (fun k => k = c0) w' wx → Rdr B wx T' nB sb cols X.1.rest X.1.ln (N + 2) ae := fun wx hx => hr.kept hx (fun k e => by subst e; rw [ho _ hb0.lt]; exact hc) (fun e => hcn e.symm) (fun b o e => hsb b o e)
  rcases hcs with ⟨h1, h2, h3⟩ | ⟨h1, h2, lB, fv, h3, h4, h5, h6, h7, h8⟩ | ⟨h1, fe, a, h2, h3, h4, h5⟩
  · subst h2 h3
    exact ⟨_, _, _, _, _, _, _, _, _, _, rfl, hbc, ep_eof hg', fun wx hx w0 hs h0 => ⟨_, _, T', rfl, hrx wx hx, hkx w0 wx hs h0 hx, hox w0 h0, .inl ⟨h1, rfl, rfl⟩⟩⟩
  · subst h2 h3
    have hne : ¬ lB = c0 := by
      intro e
      subst e
      unfold Blk at h4 hbc
      rw [hbc] at h4
      cases h4
    exact ⟨_, _, _, _, _, _, _, _, _, _, rfl, hbc, ep_nil w', fun wx hx w0 hs h0 => ⟨_, _, T', rfl, hrx wx hx, hkx w0 wx hs h0 hx, hox w0 h0, .inr (.inl ⟨h1, rfl, lB, fv, rfl, h4.kept hx hne, h5, (by
      obtain ⟨b, cap, g1, g2, g3, g4, g5⟩ := h6.ex
      refine ⟨b, cap, g1, g2, g3, Nat.lt_of_lt_of_le g4 hx.size, fun k hk2 => ?_⟩
      rw [hx.cell (p := ⟨b, k, none⟩) g4 ?_]
      · exact g5 k hk2
      · intro e
        change b = c0 at e
        subst e
        have := g5 0 (by omega)
        obtain ⟨bb, hbb⟩ := hd4
        rw [hbc.cell hbb] at this
        cases this), Nat.le_trans h0.size h7, fun b o n c e => Nat.le_trans h0.size (h8 b o n c e)⟩)⟩⟩
  · subst h1 h2
    exact ⟨_, _, _, _, _, _, _, _, _, _, rfl, hbc, ep_fault hg' h3 h5, fun wx hx w0 hs h0 => ⟨_, _, T', rfl, hrx wx hx, hkx w0 wx hs h0 hx, hox w0 h0, .inr (.inr ⟨by rcases h5 with e | e; exact .inl e.2; exact .inr e.2, rfl, rfl⟩)⟩⟩
theorem Rdr.at_ {B : Nat} {w : World} {T : Nat → Nat} {nB : Nat} {sb : Option Addr} {cols : Value} {x : Bs} {ln N : Nat} {ae : Addr} (h : Rdr B w T nB sb cols x ln N ae) : nB < w.heap.size := by
  obtain ⟨A, cB, U, n, R, ix, ps, hrx, hst, hb, hsb⟩ := h.ex
  exact hb.lt
theorem Rdr.tlt {B : Nat} {w : World} {T : Nat → Nat} {nB : Nat} {sb : Option Addr} {cols : Value} {x : Bs} {ln N : Nat} {ae : Addr} (h : Rdr B w T nB sb cols x ln N ae) {k : Nat} (hk : w.heap.size ≤ k) : T k = 0 := by
  obtain ⟨A, cB, U, n, R, ix, ps, hrx, hst, hb, hsb⟩ := h.ex
  exact hrx.new hk
set_option maxRecDepth 100000 in
set_option maxHeartbeats 2000000 in
theorem zzNext_c {B : Nat} {w : World} {T : Nat → Nat} {nB : Nat} {sb co : Option Addr} {cm cc' : Nat} {x : Bs} {ln N : Nat} {ae ab aq abq : Addr} (h : Rdr B w T nB sb (.slice co cm cc') x ln N ae) (hg : Gw B w ae ab aq abq) (hB : B ≤ w.heap.size) (hN : N ≤ 1099511626000) (hdb : ∀ b o, sb = some ⟨b, o, none⟩ → b < w.heap.size) :
    Calls Tryz.prog 18 #[.pointer (some ⟨nB, 0, none⟩)] w (ZxPost B w T nB sb (.slice co cm cc') N ae (recd x ln)) := by
  obtain ⟨R, hR⟩ : ∃ R, R = ZxPost B w T nB sb (.slice co cm cc') N ae (recd x ln) := ⟨_, rfl⟩
  obtain ⟨Z, hZ⟩ : ∃ Z : Array Value, Z = #[.bool false, .bool false, .bool false, .int .i64 0, .string .empty, .bool false, .bool false, .bool false] := ⟨_, rfl⟩
  obtain ⟨Q, hQ⟩ : ∃ Q : Ending → World → Prop, Q = NvPost B (w.alloc (.cells Z 32)) T nB sb (.slice co cm cc') N ae aq abq (recd x ln) := ⟨_, rfl⟩
  have hk : Kp (fun _ => False) w (w.alloc (.cells Z 32)) := (Kp.refl _ w).alloc _
  have HN2 : Hid (Calls Tryz.prog 32 #[.pointer (some ⟨nB, 0, none⟩)] (w.alloc (.cells Z 32)) Q) := by
    rw [hQ]
    exact nextR_c (h.quiet hk) (hg.kept hk (fun _ _ e => e)) (Nat.le_trans hB hk.size) hN
  have HP2 : Hid (∀ (e : Ending) (w' : World), Q e w' → ∃ v ve b0 b1 b2 l c b3 b4 b5, e = .returned (.tuple #[v, ve]) ∧ Blk w' w.heap.size 32 Z ∧ Ep w' ve b0 b1 b2 l c b3 b4 b5 ∧ ∀ wx, Kp (fun k => k = w.heap.size) w' wx → R (.returned (.tuple #[v, pv b0 b1 b2 l c b3 b4 b5])) wx) := fun e w' hq => by
    rw [hQ] at hq
    obtain ⟨v, ve, b0, b1, b2, l, c, b3, b4, b5, h1, h2, h3, h4⟩ := nx_parts (c0 := w.heap.size) (hg.kept hk (fun _ _ e => e)) h.low hq (h.tlt (Nat.le_refl _)) hB (by have := h.at_; omega) (fun b o e => by have := hdb b o e; omega) (Blk.new w 32 Z) (fun k s e => by
      rw [hZ] at e
      match k, e with
      | 0, e => cases e
      | 1, e => cases e
      | 2, e => cases e
      | 3, e => cases e
      | 4, e => rfl
      | 5, e => cases e
      | 6, e => cases e
      | 7, e => cases e
      | k + 8, e => simp at e) ⟨false, by rw [hZ]; rfl⟩
    exact ⟨v, ve, b0, b1, b2, l, c, b3, b4, b5, h1, h2, h3, fun wx hx => by rw [hR]; exact h4 wx hx w (Nat.le_refl _) hk⟩
  rw [← hR]
  rw [hZ] at HN2 HP2
  clear hQ hR hZ hk h hg hB hN hdb
  go_enter Tryz.func18, Tryz.ntmps18
  go_wp2_with (first | (go_at_call 32; refine HN2.out.mono ?_; rintro e w1 hp; obtain ⟨v, ve, b0, b1, b2, l, c, b3, b4, b5, rfl, hk1, hep, hfin⟩ := HP2.out _ _ hp; clear hp; have Hk1 := hide hk1; have Hep := hide hep; have Hfin := hide hfin; clear hk1 hep hfin) | (go_at_call 30; refine (Hep.out.calls _ (Kp.refl _ _)).mono ?_; rintro e w2 ⟨rfl, hk2⟩; have Hk2 := hide hk2; have Hb2 : Hid (Blk w2 w.heap.size 32 #[.bool false, .bool false, .bool false, .int .i64 0, .string .empty, .bool false, .bool false, .bool false]) := Hk1.out.kept hk2 (fun e => e); have c0 := Hb2.out.cell (k := 0) rfl; have c1 := Hb2.out.cell (k := 1) rfl; have c2 := Hb2.out.cell (k := 2) rfl; have c3 := Hb2.out.cell (k := 3) rfl; have c4 := Hb2.out.cell (k := 4) rfl; have c5 := Hb2.out.cell (k := 5) rfl; have c6 := Hb2.out.cell (k := 6) rfl; have c7 := Hb2.out.cell (k := 7) rfl; have f0 := Hb2.out.free; clear hk2; unfold pv))
  (try simp only [Exit.inBlock, Exit.then])
  refine bodyPost_ret (results_tmp_cell_row rfl _ _ w.heap.size 32 _ (0, 0) _ rfl (put8 Hb2.out _ _ _ _ _ _ _ _).1 Tryz.underlying32 rfl Tryz.info32) rfl ?_
  exact Hfin.out _ ((Hk2.out.mono (fun _ _ e => e.elim)).trans ((put8 Hb2.out _ _ _ _ _ _ _ _).2.mono (fun _ _ e => .inl e)))
end Go.Proofs.Qxb6615582aGreatFmt
