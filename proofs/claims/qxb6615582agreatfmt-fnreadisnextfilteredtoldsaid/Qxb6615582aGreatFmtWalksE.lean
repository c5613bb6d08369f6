import Derived.Test.Qxb6615582aGreatFmtRle
namespace Go.Proofs.Qxb6615582aGreatFmt
open Go.RowKit

set_option maxRecDepth 100000 in
set_option maxHeartbeats 4000000 in
theorem readLine_c {w : World} {T : Nat → Nat} {A : RA} {cB : Nat} {ae ab : Addr} {U : Bs} {n : Nat} {off : Int} {rb rec fi fp : Value} (h : Rl w T A cB ae U n off rb rec fi fp) (he : Es w T 0 ae) (hb : Es w T 8 ab) (hab : ¬ ae = ab) (hn : n ≤ 1099511627776) :
    Calls Tryz.prog 66 #[.pointer (some ⟨cB, 0, none⟩)] w (RLPost w T A cB ae U n rec fi fp) := by
  have H := hide h
  have He := hide he
  have Hb := hide hb
  have c7 : w.cell? ⟨cB, 7, none⟩ = some (.pointer (some ⟨A.bI, 0, none⟩)) := h.blk.cell rfl
  clear h he hb
  go_enter Tryz.func66, Tryz.ntmps66
  go_upto_region 2 with ((go_at_call 82; refine (H.out.slice He.out.er.cell Hb.out.er.cell He.out.tg Hb.out.tg).mono ?_; rintro e w1 ⟨L, U1, o, cap, ve, rfl, hm, hve⟩))
  clear c7
  go_cut [18] (fun s18 wx => wx = w1 ∧ ((s18 = .bool false ∧ Hid (Le ae L U1 ve)) ∨ (s18 = .bool true ∧ ve = .iface 95 (.pointer (some ab)) ∧ Hid (L.length = 4096 ∧ 10 ∉ L))))
  case first =>
    have g8 : w1.cell? ⟨8, 0, none⟩ = some (.iface 95 (.pointer (some ab))) := (Hb.out.keptK hm.out.2.2.1).cell
    rcases hve with hve | ⟨rfl, hfull⟩
    · rcases hve.out with ⟨rfl, h1⟩ | ⟨h1, h2⟩
      · have hq := Er.nil (w := w1) ab
        go_wp2
        go_meet
        exact ⟨rfl, .inl ⟨rfl, hve⟩⟩
      · have hq := (He.out.keptK hm.out.2.2.1).other (Hb.out.keptK hm.out.2.2.1) hab
        unfold ev at h1
        subst h1
        clear h2
        go_wp2
        go_meet
        exact ⟨rfl, .inl ⟨rfl, hve⟩⟩
    · have hq := Er.same (w := w1) ab
      go_wp2
      go_meet
      exact ⟨rfl, .inr ⟨rfl, by first | rfl | trivial, hfull⟩⟩
  case rest =>
    obtain ⟨hw, hcut⟩ := hcut
    obtain rfl := hw
    clear hve
    go_upto_if 18 with fail
    go_cut [4, 5] (fun s4 s5 wx => Hid (MidP w T A cB ae U n off rec fi fp s4 s5 wx))
    case first =>
      rcases hcut with ⟨rfl, hle⟩ | ⟨rfl, rfl, hfull⟩
      · go_wp2
        go_meet
        exact ⟨L, U1, T, rb, _, o, cap, rfl, hm.out.2.1, hm.out.1, hle.out, hm.out.2.2.1, Ext.refl H.out.lt⟩
      · obtain ⟨k, xs, hown⟩ := hm.out.2.1.rl.own
        obtain ⟨aor, capr, hrb, hkc, hcm, hnone, hhead⟩ := own_form hown
        rw [hrb] at hown
        have hz := own_zero hown
        obtain ⟨ao2, cap2, w2, hrun, ⟨x, hx⟩, hfz, hfin⟩ := Rl.app hm.out.2.1 (v := .slice aor 0 capr) (R := []) hz (by rw [hrb]; cases aor <;> rfl) (by rw [hfull.out.1]; decide)
        have c10 : wc.cell? ⟨cB, 10, none⟩ = some (.slice aor k capr) := by rw [← hrb]; exact hm.out.2.1.rl.blk.cell rfl
        have Hrb := hide hrb
        have hkc' : (0 : Int) ≤ capr := by omega
        have hcm' : (capr : Int) ≤ 9223372036854775807 := by unfold maxLen at hcm; omega
        clear hrb hown hz hkc hcm hnone hhead
        simp only [List.length_nil, Nat.zero_add, List.nil_append] at hrun hfin
        have Hrun := hide hrun
        clear hrun
        go_wp2_with ((at_builtin; refine wpList_app (by rfl) (.tmp 24) (.tmp 25) 22 (by rfl) (by rfl) (by rfl) Hrun.out ?_))
        clear c10 hx hfz hkc' hcm'
        go_loopg [5] (2 * U1.length + 1) (fun gk s5 wr => Hid (Gath w T A cB ae ab U n off rec fi fp gk s5 wr))
        case atStart =>
          obtain ⟨T', m1, m2, m3, m4⟩ := hfin.out _ rfl rfl rfl rfl
          have hL : L ≠ [] := by intro e; have := hfull.out.1; rw [e] at this; cases this
          exact ⟨L, U1, T', _, m1, m2, hL, hm.out.1, .inl ⟨rfl, hfull.out.2, rfl⟩, hm.out.2.2.1.ext (Ext.refl H.out.lt) m3, (Ext.refl H.out.lt).trans m4 hm.out.2.2.1.size⟩
        case round =>
          clear hfin Hrun Hrb hfull
          obtain ⟨R, U2, T2, rb2, hrl, hown, hR, hU2, hc, hkp, hext⟩ := hrel.out
          obtain ⟨aor2, capr2, rfl, -, hcm, -, -⟩ := own_form hown
          have Hrl := hide hrl
          have Hown := hide hown
          have HR := hide hR
          have HU2 := hide hU2
          have Hkp := hide hkp
          have Hext := hide hext
          have g8 : wr.cell? ⟨8, 0, none⟩ = some (.iface 95 (.pointer (some ab))) := (Hb.out.keptK hkp).cell
          have c7 : wr.cell? ⟨cB, 7, none⟩ = some (.pointer (some ⟨A.bI, 0, none⟩)) := hrl.blk.cell rfl
          have c10 : wr.cell? ⟨cB, 10, none⟩ = some (.slice aor2 R.length capr2) := hrl.blk.cell rfl
          clear hrel hrl hown hR hU2 hkp hext hcm
          rcases hc with ⟨rfl, hno, hgk⟩ | ⟨hle, hgk⟩
          · have hq := Er.same (w := wr) ab
            have Hno := hide hno
            have Hgk := hide hgk
            unfold ev
            clear hno hgk
            have hRU : Hid (R.length + U2.length ≤ 1052672) := by
              have h1 := H.out.ulen
              rw [HU2.out, List.length_append] at h1
              exact h1
            go_wp2_with (first | ((go_at_call 82; refine (Hrl.out.slice (Hb.out.kept Hkp.out Hext.out |> fun _ => (He.out.kept Hkp.out Hext.out).er.cell) (Hb.out.kept Hkp.out Hext.out).er.cell (He.out.kept Hkp.out Hext.out).tg (Hb.out.kept Hkp.out Hext.out).tg).mono ?_; rintro e w3 ⟨L3, U3, o3, cap3, ve3, rfl, hm3, hve3⟩; obtain ⟨ao3, capn, w4, hrun3, ⟨x3, hx3⟩, hfz3, hfin3⟩ := Rl.app hm3.out.2.1 (v := .slice aor2 R.length capr2) (R := R) (ownsRow_kp Hown.out hm3.out.2.2.2 (fun b e hF => by have := Hrl.out.F hF; rw [Hrl.out.traw b e] at this; omega)) rfl (by have h1 := hRU.out; rw [hm3.out.1, List.length_append] at h1; omega); have Hrun3 := hide hrun3; clear hrun3; have c10' : w3.cell? ⟨cB, 10, none⟩ = some (.slice aor2 R.length capr2) := hm3.out.2.1.rl.blk.cell rfl)) | (at_builtin; refine wpList_app (by rfl) (.tmp 44) (.tmp 45) 22 (by rfl) (by rfl) (by rfl) Hrun3.out ?_))
            obtain ⟨T', m1, m2, m3, m4⟩ := hfin3.out _ rfl rfl rfl rfl
            have hkk := Hkp.out.ext Hext.out (hm3.out.2.2.1.ext (Ext.refl Hrl.out.lt) m3)
            have hee := Hext.out.trans ((Ext.refl Hrl.out.lt).trans m4 hm3.out.2.2.1.size) Hkp.out.size
            have hUU : U = (R ++ L3) ++ U3 := by rw [HU2.out, hm3.out.1, List.append_assoc]
            have hlen : U2.length = L3.length + U3.length := by rw [hm3.out.1, List.length_append]
            have hgg := Hgk.out
            rcases hve3 with hle3 | ⟨hv3, hfull3⟩
            · go_roundg (2 * U3.length)
              case measure => omega
              case rel => exact ⟨R ++ L3, U3, T', _, m1, m2, by intro e; exact HR.out (List.append_eq_nil_iff.1 e).1, hUU, .inr ⟨hle3.out.app Hno.out, rfl⟩, hkk, hee⟩
            · have h40 := hfull3.out.1
              go_roundg (2 * U3.length + 1)
              case measure => omega
              case rel => exact ⟨R ++ L3, U3, T', _, m1, m2, by intro e; exact HR.out (List.append_eq_nil_iff.1 e).1, hUU, .inl ⟨hv3, by intro hmm; rcases List.mem_append.1 hmm with e | e; exact Hno.out e; exact hfull3.out.2 e, rfl⟩, hkk, hee⟩
          · have Hle := hide hle
            obtain ⟨g, capg, hv, -, hgl⟩ := Hown.out.form (by rcases hR2 : R with _ | _; exact absurd hR2 HR.out; simp)
            have e1 : aor2 = some ⟨g, 0, none⟩ := by cases hv; rfl
            subst e1
            clear hv hgk
            have hcp : Hid (R.length ≤ capr2 ∧ capr2 ≤ 9223372036854775807) := by
              obtain ⟨_, _, e2, h1, h2, _⟩ := own_form Hown.out
              cases e2
              exact ⟨h1, h2⟩
            rcases hle with ⟨rfl, hle⟩ | ⟨hE, hle⟩
            · clear hle
              have hq := Er.nil (w := wr) ab
              go_wp2
              go_meet
              exact ⟨R, U2, T2, _, g, 0, capr2, rfl, ⟨Hrl.out, hcp.out.1, hcp.out.2, .inr ⟨rfl, rfl, Hown.out⟩⟩, HU2.out, Hle.out, Hkp.out, Hext.out⟩
            · clear hle
              have hq := (He.out.keptK Hkp.out).other (Hb.out.keptK Hkp.out) hab
              unfold ev at hE
              subst hE
              go_wp2
              go_meet
              exact ⟨R, U2, T2, _, g, 0, capr2, rfl, ⟨Hrl.out, hcp.out.1, hcp.out.2, .inr ⟨rfl, rfl, Hown.out⟩⟩, HU2.out, Hle.out, Hkp.out, Hext.out⟩
    case rest =>
      rename_i w1
      obtain ⟨L2, U2, T2, rb2, b, o2, cap2, rfl, hmid, hU, hle, hkp, hext⟩ := hcut.out
      have Hmid := hide hmid
      have Hle := hide hle
      have HU := hide hU
      have Hkp := hide hkp
      have Hext := hide hext
      obtain ⟨N, hN⟩ : ∃ N, N = L2.length := ⟨_, rfl⟩
      have HN := hide hN
      rw [← hN]
      have hle2 : (N : Int) ≤ cap2 := by have := hmid.le; omega
      have hcp2 : (cap2 : Int) ≤ 9223372036854775807 := by have := hmid.cpl; omega
      have hNl : (N : Int) ≤ 1052672 := by have h1 := H.out.ulen; rw [hU, List.length_append] at h1; omega
      have hbc : ¬ b = cB := fun e => by have := hmid.tag; rw [e, hmid.rl.tc] at this; omega
      have hcb : ¬ cB = b := fun e => hbc e.symm
      have c8 : wc.cell? ⟨cB, 8, none⟩ = some (.int .i64 n) := hmid.rl.blk.cell rfl
      have c9 : wc.cell? ⟨cB, 9, none⟩ = some (.int .i64 off) := hmid.rl.blk.cell rfl
      have f8 := hmid.rl.blk.free 8
      have f9 := hmid.rl.blk.free 9
      have fb : wc.frozen? ⟨b, o2 + (N - 2), none⟩ = false := hmid.free _
      have g0 : wc.cell? ⟨0, 0, none⟩ = some (.iface 95 (.pointer (some ae))) := (He.out.keptK hkp).cell
      have hn' : (n : Int) ≤ 1099511627776 := by omega
      clear hcut hmid hU hkp hext hN hm hab hn Hb
      rcases hle with ⟨rfl, a, ha, ha10⟩ | ⟨hE, hU1, hno⟩
      · have hq0 := Er.nil (w := wc) ae
        have hNpos : (0 : Int) < N := by rw [HN.out, ha]; simp <;> omega
        rcases List.eq_nil_or_concat a with e | ⟨a', c, e⟩
        · have hN1 : N = 1 := by rw [HN.out, ha, e]; rfl
          subst hN1
          have Ha := hide ha
          clear ha ha10
          go_wp2
          go_ret2
          refine rl_end Hmid.out Hle.out HU.out Hkp.out Hext.out [10] [] (by rw [Ha.out, e]; rfl) (by rw [Ha.out, e]; rfl) _ _ _ ?_ _ rfl _ ?_ rfl rfl rfl rfl
          · push_cast; rfl
          · exact (if_neg (by rw [HU.out, Ha.out]; simp)).symm
        · rw [List.concat_eq_append] at e
          have hN2 : N = a'.length + 2 := by rw [HN.out, ha, e]; simp
          have hN2' : (2 : Int) ≤ N := by omega
          have hL2 : L2 = a' ++ [c, 10] := by rw [ha, e]; simp
          have hx : wc.cell? ⟨b, o2 + (N - 2), none⟩ = some (.int .u8 c.toNat) := by
            have h1 := Hmid.out.cell (j := N - 2) (by rw [← HN.out]; omega)
            rw [h1]
            have h2 : L2[N - 2]? = some c := by rw [hL2, hN2]; simp
            rw [List.getElem?_eq_getElem (by rw [← HN.out]; omega)] at h2
            rw [Option.some.inj h2]
          have hy : wc.cell? ⟨b, o2 + (N - 1), none⟩ = some (.int .u8 10) := by
            have h1 := Hmid.out.cell (j := N - 1) (by rw [← HN.out]; omega)
            rw [h1]
            have h2 : L2[N - 1]? = some 10 := by rw [hL2, hN2]; simp
            rw [List.getElem?_eq_getElem (by rw [← HN.out]; omega)] at h2
            rw [Option.some.inj h2]; rfl
          have HL2 := hide hL2
          have HN2 := hide hN2
          clear ha ha10 e hL2 hN2
          by_cases hc : c = 13
          · subst hc
            have hx' : wc.cell? ⟨b, o2 + (N - 2), none⟩ = some (.int .u8 13) := hx
            clear hx
            go_wp2
            go_ret2
            refine rl_endp Hmid.out Hle.out HU.out Hkp.out Hext.out a' HL2.out _ _ _ ?_ _ ?_ (N - 2) ?_ rfl rfl rfl rfl
            · push_cast; rfl
            · have := HN2.out; omega
            · have := HN2.out; omega
          · have hc13 : ((c.toNat : Int) == 13) = false := by
              rw [beq_eq_false_iff_ne]
              intro e
              exact hc (UInt8.toNat_inj.1 (by have : (13 : UInt8).toNat = 13 := rfl; omega))
            have Hc := hide hc
            clear hc
            go_wp2
            go_ret2
            refine rl_end Hmid.out Hle.out HU.out Hkp.out Hext.out L2 [] (by simp) (by rw [HL2.out]; exact trim_nl _ Hc.out) _ _ _ ?_ _ HN.out _ ?_ rfl rfl rfl rfl
            · push_cast; rfl
            · exact (if_neg (by rw [HU.out, HL2.out]; simp)).symm
      · unfold ev at hE
        subst hE
        have hq0 := Er.same (w := wc) ae
        have HU1 := hide hU1
        have Hno := hide hno
        clear hU1 hno
        have hby : Hid (∀ j, j < N → ∃ c : UInt8, wc.cell? ⟨b, o2 + j, none⟩ = some (.int .u8 c.toNat) ∧ L2[j]? = some c ∧ ((c.toNat : Int) == 10) = false) := fun j hj => by
          have hj2 : j < L2.length := by rw [← HN.out]; exact hj
          refine ⟨L2[j], Hmid.out.cell hj2, List.getElem?_eq_getElem hj2, ?_⟩
          rw [beq_eq_false_iff_ne]
          intro e
          exact Hno.out (by
            have h1 : L2[j] = 10 := UInt8.toNat_inj.1 (by have : (10 : UInt8).toNat = 10 := rfl; omega)
            rw [← h1]
            exact List.getElem_mem hj2)
        rcases List.eq_nil_or_concat L2 with e | ⟨a, c, e⟩
        · have hN0 : N = 0 := by rw [HN.out, e]; rfl
          subst hN0
          have Ha := hide e
          clear e
          go_wp2
          go_ret2
          refine rl_end Hmid.out Hle.out HU.out Hkp.out Hext.out [] [] (by rw [Ha.out]; rfl) (by rw [Ha.out]; rfl) _ _ _ ?_ _ rfl _ ?_ rfl rfl rfl rfl
          · push_cast; rfl
          · exact (if_pos (by rw [HU.out, Ha.out, HU1.out]; rfl)).symm
        · rw [List.concat_eq_append] at e
          have hNa : N = a.length + 1 := by rw [HN.out, e]; simp
          have hNpos : (0 : Int) < N := by omega
          obtain ⟨c', hz, hz2, hz10⟩ := hby.out (N - 1) (by omega)
          have hcc : c' = c := by
            rw [e, hNa] at hz2
            simp at hz2
            exact hz2.symm
          subst hcc
          have HL2 := hide e
          have HNa := hide hNa
          have hneU : Hid (U ≠ []) := by
            show U ≠ []
            rw [HU.out, e]; simp
          have hc10 : Hid (c' ≠ 10) := by
            rintro rfl
            exact absurd hz10 (by decide)
          clear e hNa hz2 hz10
          by_cases hc : c' = 13
          · subst hc
            have hz' : wc.cell? ⟨b, o2 + (N - 1), none⟩ = some (.int .u8 13) := hz
            clear hz
            by_cases hN3 : N - 1 < 2
            · have hN3' : ¬ (2 : Int) ≤ ((N - 1 : Nat) : Int) := by omega
              go_wp2
              go_ret2
              refine rl_end Hmid.out Hle.out HU.out Hkp.out Hext.out a [13] HL2.out (by rw [HL2.out]; exact trim_cr a) _ _ _ ?_ _ ?_ _ ?_ rfl rfl rfl rfl
              · push_cast; rfl
              · have := HNa.out; omega
              · exact (if_neg hneU.out).symm
            · have hN3' : (2 : Int) ≤ ((N - 1 : Nat) : Int) := by omega
              obtain ⟨x, hx, -, -⟩ := hby.out (N - 1 - 2) (by omega)
              obtain ⟨y, hy, -, hy10⟩ := hby.out (N - 1 - 1) (by omega)
              cases hx13 : ((x.toNat : Int) == 13)
              · go_wp2
                go_ret2
                refine rl_end Hmid.out Hle.out HU.out Hkp.out Hext.out a [13] HL2.out (by rw [HL2.out]; exact trim_cr a) _ _ _ ?_ _ ?_ _ ?_ rfl rfl rfl rfl
                · push_cast; rfl
                · have := HNa.out; omega
                · exact (if_neg hneU.out).symm
              · go_wp2
                go_ret2
                refine rl_end Hmid.out Hle.out HU.out Hkp.out Hext.out a [13] HL2.out (by rw [HL2.out]; exact trim_cr a) _ _ _ ?_ _ ?_ _ ?_ rfl rfl rfl rfl
                · push_cast; rfl
                · have := HNa.out; omega
                · exact (if_neg hneU.out).symm
          · have hc13 : ((c'.toNat : Int) == 13) = false := by
              rw [beq_eq_false_iff_ne]
              intro e
              exact hc (UInt8.toNat_inj.1 (by have : (13 : UInt8).toNat = 13 := rfl; omega))
            have Hc := hide hc
            clear hc
            by_cases hN3 : N < 2
            · have hN3' : ¬ (2 : Int) ≤ (N : Int) := by omega
              go_wp2
              go_ret2
              refine rl_end Hmid.out Hle.out HU.out Hkp.out Hext.out L2 [] (by simp) (by rw [HL2.out]; exact trim_no a Hc.out hc10.out) _ _ _ ?_ _ HN.out _ ?_ rfl rfl rfl rfl
              · push_cast; rfl
              · exact (if_neg hneU.out).symm
            · have hN3' : (2 : Int) ≤ (N : Int) := by omega
              obtain ⟨x, hx, -, -⟩ := hby.out (N - 2) (by omega)
              obtain ⟨y, hy, -, hy10⟩ := hby.out (N - 1) (by omega)
              cases hx13 : ((x.toNat : Int) == 13)
              · clear hy hy10
                go_wp2
                go_ret2
                refine rl_end Hmid.out Hle.out HU.out Hkp.out Hext.out L2 [] (by simp) (by rw [HL2.out]; exact trim_no a Hc.out hc10.out) _ _ _ ?_ _ HN.out _ ?_ rfl rfl rfl rfl
                · push_cast; rfl
                · exact (if_neg hneU.out).symm
              · have hy2 : y = c' := by
                  rw [hz] at hy
                  simp at hy
                  exact (UInt8.toNat_inj.1 (by omega)).symm
                subst hy2
                clear hy
                go_wp2
                go_ret2
                refine rl_end Hmid.out Hle.out HU.out Hkp.out Hext.out L2 [] (by simp) (by rw [HL2.out]; exact trim_no a Hc.out hc10.out) _ _ _ ?_ _ HN.out _ ?_ rfl rfl rfl rfl
                · push_cast; rfl
                · exact (if_neg hneU.out).symm
end Go.Proofs.Qxb6615582aGreatFmt
