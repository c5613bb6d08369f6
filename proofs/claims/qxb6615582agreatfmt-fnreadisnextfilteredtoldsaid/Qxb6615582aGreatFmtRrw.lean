import Derived.Test.Qxb6615582aGreatFmtTl2
import Derived.WalkMore
import Derived.Deep.CutBlock
import Derived.Deep.DeepCutAuto
namespace Go.Proofs.Qxb6615582aGreatFmt
open Go.RowKit

set_option maxRecDepth 1000000 in
set_option maxHeartbeats 8000000 in
theorem readRecord_c {w : World} {T : Nat → Nat} {A : RA} {cB : Nat} {ae ab aq abq : Addr} {U : Bs} {n N : Nat} {R : Bs} {ix : List Nat} {ps : List (Int × Int)} {x : Bs} {ln : Nat} (h : Rx w T w T A cB ae N U n R ix ps) (hg : G0 w T ae ab aq abq) (hst : St x ln U n) (hN : N ≤ 1099511626000) :
    Calls Tryz.prog 55 #[.pointer (some ⟨cB, 0, none⟩), .slice none 0 0] w (RRPost w T A cB ae aq abq N (recd x ln)) := by
  obtain ⟨X, hX⟩ : ∃ X, recd x ln = X := ⟨_, rfl⟩
  have H := hide h
  have Hg := hide hg
  have Hst := hide hst
  rw [hX]
  have HX := hide hX
  obtain ⟨c0, c1⟩ : w.cell? ⟨cB, 0, none⟩ = some (.int .i32 44) ∧ w.cell? ⟨cB, 1, none⟩ = some (.int .i32 0) := by
    obtain ⟨off, rb, rec, fi, fp, h1⟩ := h.rr
    exact ⟨h1.rl.blk.cell rfl, h1.rl.blk.cell rfl⟩
  clear h hg hst hX
  go_enter Tryz.func55, Tryz.ntmps55
  go_wp2_with fail
  go_step3
  go_upto_region 1 with fail
  go_quiet ((go_at_call 65; refine Calls.quiet_of_same validDelim_c))
  go_upto_block 0 with fail
  go_cut [6, 7] (fun s6 s7 wx => Hid (Rb w T A cB ae N X R ix ps s6 s7 wx))
  case first =>
    clear c0 c1
    go_wp2_with fail
    go_loopg [7] U.length (fun gk s7 wr => s7 = .nilIface ∧ Hid (Ra w T A cB ae N X R ix ps gk wr))
    case atStart =>
      refine ⟨rfl, T, U, n, x, ln, ⟨?_, ?_, H.out.nb⟩, Hst.out, HX.out, rfl⟩
      · obtain ⟨off, rb, rec, fi, fp, h1⟩ := H.out.rr
        exact ⟨off, rb, rec, fi, fp, h1.kept ((Kp.refl (fun _ => False) w).drewN _) (fun _ e => e.elim)⟩
      · exact (Jx.refl w T).step ((Kp.refl (fun _ => False) w).drewN _) (fun _ e => e.elim) (fun _ _ => rfl)
    case round =>
      obtain ⟨rfl, hra⟩ := hrel
      obtain ⟨T1, U1, n1, x1, ln1, hrx, hst1, hX1, hgk⟩ := hra.out
      obtain ⟨off, rb, rec, fi, fp, hrr⟩ := hrx.rr
      have G1 := Hg.out.at_ hrx.jx
      have HG1 := hide G1
      have Hrr := hide hrr
      have Hjx := hide hrx.jx
      have Hnb := hide hrx.nb
      have Hst1 := hide hst1
      have HX1 := hide hX1
      have Hgk := hide hgk
      have HL := hide (readLine_c hrr.rl G1.e0 G1.e8 G1.ne (by have := hrx.nb; omega))
      have hlU := hide hrr.rl.ulen
      obtain ⟨l, hl⟩ : ∃ l, trimCR (raw U1).1 = l := ⟨_, rfl⟩
      have Hl := hide hl
      clear hra hrx hst1 hX1 hgk hrr G1 hl H Hst HX
      by_cases hU : U1 = []
      · go_wp2_with ((go_at_call 66; refine HL.out.mono ?_; rintro e w1 ⟨v, T2, off2, rb2, he, hrl, hlv, hkp, hext⟩; rw [if_pos hU] at he; unfold ev at he; subst he; obtain ⟨bl, ol, capl, rfl, hcl1, hcl2, -⟩ := hlv.form; have Hrl := hide hrl; have Hlv := hide hlv; have Hkp := hide hkp; have Hext := hide hext; have c1 : w1.cell? ⟨cB, 1, none⟩ = some (.int .i32 0) := hrl.blk.cell rfl; clear hrl hlv hkp hext hcl1 hcl2))
        go_quiet (fail)
        go_wp2
        go_meet
        refine ⟨T2, [], n1 + 1, ⟨?_, ?_, ?_⟩, .inl ⟨rfl, ?_⟩⟩
        · exact ⟨off2, rb2, rec, fi, fp, ((Hrr.out.line (by have := Hrl.out; rw [hU] at this; exact this) Hkp.out Hext.out).kept ((Kp.refl (fun _ => False) w1).drewN _) (fun _ e => e.elim))⟩
        · exact (Hjx.out.step Hkp.out (fun k e => by unfold Fl at e; omega) Hext.out.old).step ((Kp.refl (fun _ => False) w1).drewN _) (fun _ e => e.elim) (fun _ _ => rfl)
        · have := Hnb.out
          simp; omega
        · rw [← HX1.out]
          have h1 := (by have := Hst1.out; rw [hU] at this; exact this : St x1 ln1 [] n1).eof
          exact ⟨h1.1, h1.2, rfl⟩
      · have hrl3 := hide (raw_len U1 hU)
        by_cases hbl : l.length = lnl l
        · have hbl' : ((l.length : Int) == (lnl l : Int)) = true := by rw [hbl]; simp
          have Hbl := hide hbl
          clear hbl
          have hll : Hid (l.length ≤ 4294967296) := by
            have := hlU.out
            have := hrl3.out.1
            rw [Hl.out] at this
            show _ ≤ _
            omega
          go_wp2_with ((go_at_call 66; refine HL.out.mono ?_; rintro e w1 ⟨v, T2, off2, rb2, he, hrl, hlv, hkp, hext⟩; rw [if_neg hU] at he; rw [Hl.out] at hlv; subst he; obtain ⟨bl, ol, capl, rfl, hcl1, hcl2, -⟩ := hlv.form; have Hrl := hide hrl; have Hlv := hide hlv; have Hkp := hide hkp; have Hext := hide hext; have c1 : w1.cell? ⟨cB, 1, none⟩ = some (.int .i32 0) := hrl.blk.cell rfl; clear hrl hlv hkp hext hcl1 hcl2))
          go_quiet (fail)
          go_wp2_with ((go_at_call 68; refine (lnl_lv (Hlv.out.kept ((Kp.refl (fun _ => False) w1).drewN _) (fun _ e => e.elim) (fun _ _ => rfl)) hll.out).mono ?_; rintro e w2 ⟨rfl, rfl⟩))
          obtain ⟨x', ln', k1, k2⟩ := Hst1.out.blank (by
            rw [Hl.out]
            refine (blank_iff l ?_).1 Hbl.out
            have h1 := (line_norm U1).2
            rw [Hl.out] at h1
            rcases h1 with ⟨a, h2, h3⟩ | ⟨h2, _⟩
            · exact .inl ⟨a, h2, h3⟩
            · exact .inr h2)
          go_roundg (raw U1).2.length
          case measure => have := hrl3.out.2.1; have := Hgk.out; omega
          case rel =>
            refine ⟨rfl, T2, (raw U1).2, n1 + 1, x', ln', ⟨⟨off2, rb2, rec, fi, fp, (Hrr.out.line Hrl.out Hkp.out Hext.out).kept ((Kp.refl (fun _ => False) w1).drewN _) (fun _ e => e.elim)⟩, (Hjx.out.step Hkp.out (fun k e => by unfold Fl at e; omega) Hext.out.old).step ((Kp.refl (fun _ => False) w1).drewN _) (fun _ e => e.elim) (fun _ _ => rfl), ?_⟩, k2, by rw [← k1]; exact HX1.out, rfl⟩
            have := hrl3.out.2.1
            have := Hnb.out
            omega
        · have hbl' : ((l.length : Int) == (lnl l : Int)) = false := by rw [beq_eq_false_iff_ne]; omega
          have Hbl := hide hbl
          clear hbl
          have hll : Hid (l.length ≤ 4294967296) := by
            have := hlU.out
            have := hrl3.out.1
            rw [Hl.out] at this
            show _ ≤ _
            omega
          go_wp2_with ((go_at_call 66; refine HL.out.mono ?_; rintro e w1 ⟨v, T2, off2, rb2, he, hrl, hlv, hkp, hext⟩; rw [if_neg hU] at he; rw [Hl.out] at hlv; subst he; obtain ⟨bl, ol, capl, rfl, hcl1, hcl2, -⟩ := hlv.form; have Hrl := hide hrl; have Hlv := hide hlv; have Hkp := hide hkp; have Hext := hide hext; have c1 : w1.cell? ⟨cB, 1, none⟩ = some (.int .i32 0) := hrl.blk.cell rfl; clear hrl hlv hkp hext hcl1 hcl2))
          go_quiet (fail)
          go_wp2_with ((go_at_call 68; refine (lnl_lv (Hlv.out.kept ((Kp.refl (fun _ => False) w1).drewN _) (fun _ e => e.elim) (fun _ _ => rfl)) hll.out).mono ?_; rintro e w2 ⟨rfl, rfl⟩))
          have hnb : ¬ (trimCR (raw U1).1 = [10] ∨ trimCR (raw U1).1 = []) := by
            rw [Hl.out]
            intro e
            refine Hbl.out ((blank_iff l ?_).2 e)
            have h1 := (line_norm U1).2
            rw [Hl.out] at h1
            rcases h1 with ⟨a, h2, h3⟩ | ⟨h2, _⟩
            · exact .inl ⟨a, h2, h3⟩
            · exact .inr h2
          obtain ⟨k1, k2⟩ := Hst1.out.begins (fun e => hnb (.inl e)) (fun e => hnb (.inr e))
          rw [HX1.out] at k1 k2
          rw [Hl.out] at k2
          have k3 := Hnb.out
          have k4 := hrl3.out
          rw [Hl.out] at k4
          have k5 := hlU.out
          go_meet
          refine ⟨T2, (raw U1).2, n1 + 1, ⟨⟨off2, rb2, rec, fi, fp, (Hrr.out.line Hrl.out Hkp.out Hext.out).kept ((Kp.refl (fun _ => False) w1).drewN _) (fun _ e => e.elim)⟩, (Hjx.out.step Hkp.out (fun k e => by unfold Fl at e; omega) Hext.out.old).step ((Kp.refl (fun _ => False) w1).drewN _) (fun _ e => e.elim) (fun _ _ => rfl), by omega⟩, .inr ⟨rfl, l, Hlv.out.kept ((Kp.refl (fun _ => False) w1).drewN _) (fun _ e => e.elim) (fun _ _ => rfl), k2, k1, by omega, by omega⟩⟩
  case rest =>
    clear H Hst HX c0 c1
    obtain ⟨T1, U1, n1, hrx, hcase⟩ := hcut.out
    have G1 := Hg.out.at_ hrx.jx
    have HG1 := hide G1
    have Hrx := hide hrx
    have g0 : wc.cell? ⟨0, 0, none⟩ = some (.iface 95 (.pointer (some ae))) := G1.e0.er.cell
    clear hcut hrx G1
    rcases hcase with ⟨h7, h1⟩ | ⟨h7, l, hlv, hfd, hX2, hnb, hlen⟩
    · unfold ev at h7
      subst h7
      have H1 := hide h1
      clear h1
      have hq := Er.same (w := wc) ae
      go_wp2
      go_ret2
      obtain ⟨k1, k2, k3⟩ := H1.out
      subst k3
      exact ⟨_, _, T1, [], n1, R, ix, ps, rfl, ⟨Hrx.out.rr, Hrx.out.jx, Nat.le_succ_of_le Hrx.out.nb⟩, ⟨by rw [k2]; rfl, fun h => absurd rfl h⟩, .inl ⟨k1, rfl, rfl⟩⟩
    · subst h7
      obtain ⟨off, rb, rec, fi, fp, hrr⟩ := Hrx.out.rr
      obtain ⟨ar, cr, rfl, -, hcr, -, -⟩ := own_form hrr.orec
      obtain ⟨af, cf, rfl, -, hcf, -, -⟩ := own_form hrr.ofi
      obtain ⟨ap, cp, rfl, -, hcp, -, -⟩ := own_form hrr.ofp
      have hcr' : (cr : Int) ≤ 9223372036854775807 := by unfold maxLen at hcr; omega
      have hcf' : (cf : Int) ≤ 9223372036854775807 := by unfold maxLen at hcf; omega
      have hcp' : (cp : Int) ≤ 9223372036854775807 := by unfold maxLen at hcp; omega
      have Hrr := hide hrr
      have Hlv := hide hlv
      have Hfd := hide hfd
      have HX2 := hide hX2
      have Hnb := hide hnb
      have Hlen := hide hlen
      have c0 : wc.cell? ⟨cB, 0, none⟩ = some (.int .i32 44) := hrr.rl.blk.cell rfl
      have c8 : wc.cell? ⟨cB, 8, none⟩ = some (.int .i64 n1) := hrr.rl.blk.cell rfl
      have c11 : wc.cell? ⟨cB, 11, none⟩ = some (.slice ar R.length cr) := hrr.rl.blk.cell rfl
      have c12 : wc.cell? ⟨cB, 12, none⟩ = some (.slice af ix.length cf) := hrr.rl.blk.cell rfl
      have c13 : wc.cell? ⟨cB, 13, none⟩ = some (.slice ap ps.length cp) := hrr.rl.blk.cell rfl
      have f11 := hrr.rl.blk.free 11
      have f12 := hrr.rl.blk.free 12
      have f13 := hrr.rl.blk.free 13
      have hcs := hrr.rl.blk.lt
      have hcs1 : ¬ cB = wc.heap.size := by omega
      have hcs2 : ¬ wc.heap.size = cB := by omega
      have hq := Er.nil (w := wc) ae
      clear hrr hlv hfd hX2 hnb hlen hcr hcf hcp
      go_wp2_with ((go_at_call 69; refine runeLen_c.mono ?_; rintro e w2 ⟨rfl, rfl⟩))
      go_step3
      go_upto_block 2 with fail
      obtain ⟨T3, r3, p3, k3, q3⟩ := Hrr.out.reset n1 1 _ rfl rfl rfl rfl
      have hjx := Hrx.out.jx.step k3 (fun k e => by omega) q3
      have L3 := Hlv.out.kept k3 (fun k e => by omega) q3
      rename_i K hK
      refine wp_block ?_
      refine wp_mono (loop2 (w0 := w) (T0 := T) (A := A) (cB := cB) (ae := ae) (ab := ab) (aq := aq) (abq := abq) (N := N) (st := n1) (pB := w2.heap.size) (X := X.1) (gk := l.length + U1.length) (R2 := fun a w' => ID w T A cB ae aq abq N n1 w2.heap.size X.1 a w') ⟨⟨rfl, rfl, rfl, rfl, rfl, rfl, rfl⟩, rfl, rfl, T3, U1, n1, [], [], _, _, l, ⟨⟨⟨_, _, _, _, _, r3⟩, hjx, Hnb.out⟩, p3, fun _ => rfl, fun p hp => (by cases hp), rfl, ?_⟩, L3, Hfd.out, rfl⟩ Hg.out hN (fun _ _ h => h)) ?_
      · have := Hlen.out
        simp; omega
      · intro e a' w' h
        obtain ⟨rfl, h⟩ := h.elim
        show K a' w'
        apply hK
        refine wp_mono (c := (tl2 Tryz.f55.body)) (tail_c h HX2.out) ?_
        intro e2 a2 w3 h3
        cases e2 with
        | ret => exact bodyPost_ret (results_tmp2 rfl _ _ _) h3.1 h3.2
        | normal => exact h3.elim
        | exit _ => exact h3.elim
        | goto _ => exact h3.elim
        | panic _ => exact h3.elim
        | outgrown => exact h3.elim
end Go.Proofs.Qxb6615582aGreatFmt
