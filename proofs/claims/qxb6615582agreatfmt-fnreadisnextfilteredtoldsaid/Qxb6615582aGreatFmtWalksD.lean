import Derived.Test.Qxb6615582aGreatFmtWalksC
namespace Go.Proofs.Qxb6615582aGreatFmt
open Go.RowKit

theorem rs_more {w wr w2 : World} {A : RA} {ae : Addr} {U g : Bs} {r wp i : Nat} {lb lr pr : Int} {s : Nat} (h : RSst w wr A ae U g r wp i .nilIface lb lr pr s) (hno : 10 ∉ (g.take wp).drop r) (hf : FillOut wr w2 A g r wp i (ev ae) lb lr) :
    (∃ g' r' wp' i' err' lb' lr' pr', RSst w w2 A ae U g' r' wp' i' err' lb' lr' pr' (wp - r)) ∧ muOf A w2 < muOf A wr := by
  obtain ⟨hk, g', wp', i', err', pr', hB, hU, hle, hc⟩ := hf
  have hn : ((g'.take wp').drop 0).take (wp - r) = (g.take wp).drop r := by
    have h1 : ((g'.take wp').drop 0).take (wp - r) = (unr A g' 0 wp' i').take (wp - r) := by
      unfold unr
      rw [List.take_append_of_le_length (by rw [seg_len hB.gl hB.wl]; omega)]
    rw [h1, hU]
    unfold unr
    rw [List.take_append_of_le_length (by rw [seg_len h.bio.gl h.bio.wl]; omega)]
    exact List.take_of_length_le (by rw [seg_len h.bio.gl h.bio.wl]; omega)
  refine ⟨⟨g', 0, wp', i', err', lb, lr, pr', hB, hU.trans h.un, by rw [hn]; exact hno, ?_, h.kp.trans (hk.mono (fun k _ e => .inl e)), by omega⟩, ?_⟩
  · rcases hc with ⟨e, _⟩ | ⟨e, e2⟩
    · exact .inl e
    · exact .inr ⟨e, e2⟩
  · rw [hB.mu, h.bio.mu]
    have h3 := hB.il
    have h4 := h.bio.il
    rcases hc with ⟨e, e2⟩ | ⟨e, e2⟩
    · subst e
      show 2 * _ + 1 < 2 * _ + 1
      omega
    · subst e
      show 2 * _ + 0 < 2 * _ + 1
      omega

set_option maxRecDepth 100000 in
set_option maxHeartbeats 4000000 in
theorem readSlice_c {w : World} {A : RA} {ae ab : Addr} {U g : Bs} {r : Nat} (h : BioU w A ae U g r) (he : w.cell? ⟨0, 0, none⟩ = some (ev ae)) (hb : w.cell? ⟨8, 0, none⟩ = some (ev ab)) (h0 : ¬ A.F 0) (h8 : ¬ A.F 8) :
    Calls Tryz.prog 82 #[.pointer (some ⟨A.bI, 0, none⟩), .int .u8 10] w (RSPost w A ae ab U) := by
  have H := hide h
  have He := hide he
  have Hb := hide hb
  have H0 := hide h0
  have H8 := hide h8
  clear h he hb h0 h8
  obtain ⟨bI, hbI⟩ : ∃ b, b = A.bI := ⟨_, rfl⟩
  obtain ⟨bB, hbB⟩ : ∃ b, b = A.bB := ⟨_, rfl⟩
  rw [← hbI]
  have HbI := hide hbI
  have HbB := hide hbB
  clear hbI hbB
  go_enter Tryz.func82, Tryz.ntmps82
  go_wp2_with fail
  go_loopw [5, 6] (fun s5 s6 wr => s5 = .nilIface ∧ ∃ (s : Nat) (g : Bs) (r wp i : Nat) (err : Value) (lb lr pr : Int), s6 = .int .i64 s ∧ Hid (RSst w wr A ae U g r wp i err lb lr pr s)) (fun _ _ wr => muOf A wr)
  case atStart =>
    obtain ⟨wp, i, err, lb, lr, pr, h1, h2, h3⟩ := H.out.ex
    exact ⟨rfl, 0, g, r, wp, i, err, lb, lr, pr, rfl, ⟨h1, h2, by simp, h3, Kp.refl _ _, Nat.zero_le _⟩⟩
  case round =>
    clear H
    obtain ⟨rfl, s, g, r, wp, i, err, lb, lr, pr, rfl, hst⟩ := hrel
    have hib : ¬ bI = bB := by rw [HbI.out, HbB.out]; exact hst.out.bio.ok.ib
    have hbi : ¬ bB = bI := fun e => hib e.symm
    have c0 : wr.cell? ⟨bI, 0, none⟩ = some (.slice (some ⟨bB, 0, none⟩) 4096 4096) := by rw [HbI.out, HbB.out]; exact hst.out.bio.bio.cell rfl
    have c2 : wr.cell? ⟨bI, 2, none⟩ = some (.int .i64 r) := by rw [HbI.out]; exact hst.out.bio.bio.cell rfl
    have c3 : wr.cell? ⟨bI, 3, none⟩ = some (.int .i64 wp) := by rw [HbI.out]; exact hst.out.bio.bio.cell rfl
    have c5 : wr.cell? ⟨bI, 5, none⟩ = some (.int .i64 lb) := by rw [HbI.out]; exact hst.out.bio.bio.cell rfl
    have c6 : wr.cell? ⟨bI, 6, none⟩ = some (.int .i64 lr) := by rw [HbI.out]; exact hst.out.bio.bio.cell rfl
    have f2 : wr.frozen? ⟨bI, 2, none⟩ = false := by rw [HbI.out]; exact hst.out.bio.bio.free 2
    have f5 : wr.frozen? ⟨bI, 5, none⟩ = false := by rw [HbI.out]; exact hst.out.bio.bio.free 5
    have f6 : wr.frozen? ⟨bI, 6, none⟩ = false := by rw [HbI.out]; exact hst.out.bio.bio.free 6
    have hrw : (r : Int) ≤ wp := by have := hst.out.bio.rw; omega
    have hwl : (wp : Int) ≤ 4096 := by have := hst.out.bio.wl; omega
    have hsl : (s : Int) ≤ wp - r := by have := hst.out.sl; have := hst.out.bio.rw; omega
    have hcell : Hid (∀ j, r + j < wp → ∃ c : UInt8, wr.cell? ⟨bB, r + j, none⟩ = some (.int .u8 c.toNat)) := fun j hj => by
      have := hst.out.bio.gl
      rw [HbB.out]
      exact ⟨_, hst.out.bio.buf.byte (j := r + j) (by omega)⟩
    have hIx : Hid (∀ (n : Nat) (o : Nat), (r + s ≠ 4096 → o = r + s) → Calls Tryz.prog 74 #[.slice (some ⟨bB, o, none⟩) (wp - (r + s)) (4096 - (r + s)), .int .u8 10] (wr.drewN n) fun e w' => e = .returned (.int .i64 (Lib.indexByte (((g.take wp).drop r).drop s) 10)) ∧ w' = wr.drewN n) := by
      intro n o ho
      have hl : (((g.take wp).drop r).drop s).length = wp - (r + s) := by
        rw [List.length_drop, seg_len hst.out.bio.gl hst.out.bio.wl]; omega
      have h1 := indexByte_c (w := wr.drewN n) (b := bB) (o := o) (cap := 4096 - (r + s)) (l := ((g.take wp).drop r).drop s) (c := 10) (fun j hj => by
        have := hst.out.bio.gl
        rw [hl] at hj
        rw [ho (by omega), HbB.out]
        show wr.cell? _ = _
        rw [hst.out.bio.buf.byte (j := r + s + j) (by omega)]
        simp [Nat.add_assoc])
      rw [hl] at h1
      exact h1
    rcases part 10 (((g.take wp).drop r).drop s) with hno | ⟨a, b, hs, ha⟩
    · have hno2 : Hid (10 ∉ (g.take wp).drop r) := by
        rw [← List.take_append_drop s ((g.take wp).drop r)]
        intro hm
        rcases List.mem_append.1 hm with e | e
        · exact hst.out.no e
        · exact hno e
      rw [ib_no hno] at hIx
      clear hno
      go_upto_region 2 with fail
      go_cut [7] (fun s7 wx => s7 = .int .i64 (-1) ∧ Hid (∃ k, wx = wr.drewN k))
      case first =>
        by_cases h4 : r + s = 4096
        · obtain rfl : wp = 4096 := by omega
          have hI2 : Hid (∀ n, Calls Tryz.prog 74 #[.slice (some ⟨bB, 0, none⟩) 0 0, .int .u8 10] (wr.drewN n) fun e w' => e = .returned (.int .i64 (-1)) ∧ w' = wr.drewN n) := fun n => by
            have h1 := hIx.out n 0 (fun hn => absurd h4 hn)
            rw [h4] at h1
            exact h1
          go_wp2_with fail
          go_quiet ((go_at_call 74; refine Calls.quiet_of_same (hI2.out _)))
          go_wp2_with fail
          go_meet
          exact ⟨rfl, _, rfl⟩
        · have h4' : ¬ 4096 = r + s := fun e => h4 e.symm
          go_wp2_with fail
          go_quiet ((go_at_call 74; refine Calls.quiet_of_same (hIx.out _ _ (fun _ => rfl))))
          go_wp2_with fail
          go_meet
          exact ⟨rfl, _, rfl⟩
      case rest =>
        obtain ⟨rfl, hcut⟩ := hcut
        have hst2 : Hid (RSst w wc A ae U g r wp i err lb lr pr s) := by
          obtain ⟨k, hk⟩ := hcut.out
          rw [hk]; exact hst.out.draws k
        have hmu : Hid (muOf A wc = muOf A wr) := by
          obtain ⟨k, hk⟩ := hcut.out
          rw [hk]; exact rfl
        clear c0 c2 c3 c5 c6 f2 f5 f6 hIx hcell hcut
        have c0 : wc.cell? ⟨bI, 0, none⟩ = some (.slice (some ⟨bB, 0, none⟩) 4096 4096) := by rw [HbI.out, HbB.out]; exact hst2.out.bio.bio.cell rfl
        have c2 : wc.cell? ⟨bI, 2, none⟩ = some (.int .i64 r) := by rw [HbI.out]; exact hst2.out.bio.bio.cell rfl
        have c3 : wc.cell? ⟨bI, 3, none⟩ = some (.int .i64 wp) := by rw [HbI.out]; exact hst2.out.bio.bio.cell rfl
        have c5 : wc.cell? ⟨bI, 5, none⟩ = some (.int .i64 lb) := by rw [HbI.out]; exact hst2.out.bio.bio.cell rfl
        have c6 : wc.cell? ⟨bI, 6, none⟩ = some (.int .i64 lr) := by rw [HbI.out]; exact hst2.out.bio.bio.cell rfl
        have f2 : wc.frozen? ⟨bI, 2, none⟩ = false := by rw [HbI.out]; exact hst2.out.bio.bio.free 2
        have f5 : wc.frozen? ⟨bI, 5, none⟩ = false := by rw [HbI.out]; exact hst2.out.bio.bio.free 5
        have f6 : wc.frozen? ⟨bI, 6, none⟩ = false := by rw [HbI.out]; exact hst2.out.bio.bio.free 6
        by_cases hE : err = .nilIface
        · subst hE
          have c4 : wc.cell? ⟨bI, 4, none⟩ = some .nilIface := by rw [HbI.out]; exact hst2.out.bio.bio.cell rfl
          have hBf : Hid (∀ n, Calls Tryz.prog 91 #[.pointer (some ⟨bI, 0, none⟩)] (wc.drewN n) fun e w' => e = .returned (.int .i64 ((wp : Int) - r)) ∧ ∃ m, w' = (wc.drewN n).drewN m) := fun n => by
            rw [HbI.out]; exact buffered_c (hst2.out.bio.draws n)
          by_cases hfull : 4096 ≤ wp - r
          · obtain rfl : r = 0 := by omega
            obtain rfl : wp = 4096 := by omega
            have h8 : wc.cell? ⟨8, 0, none⟩ = some (.iface 95 (.pointer (some ab))) := by
              rw [hst2.out.kp.cell (p := ⟨8, 0, none⟩) (lt_of_cell Hb.out) H8.out]; exact Hb.out
            have hb8 : ¬ 8 = bI := by rw [HbI.out]; exact fun e => H8.out (.inl e)
            have h8b : ¬ bI = 8 := fun e => hb8 e.symm
            obtain ⟨c, hc⟩ : ∃ c : UInt8, wc.cell? ⟨bB, 4095, none⟩ = some (.int .u8 c.toNat) := by
              have := hst2.out.bio.gl
              rw [HbB.out]
              exact ⟨_, hst2.out.bio.buf.byte (j := 4095) (by omega)⟩
            go_wp2_with fail
            go_quiet ((go_at_call 91; refine Calls.quiet_of (hBf.out _)))
            go_wp2_with fail
            go_ret2
            have e1 := HbI.out
            have e2 := HbB.out
            subst e1 e2
            exact rs_full' hst2.out hno2.out (Nat.le_refl _) _ _ _ rfl rfl rfl rfl
          · have hfull' : ¬ (4096 : Int) ≤ (wp : Int) - r := by omega
            have hF : Hid (∀ n, Calls Tryz.prog 92 #[.pointer (some ⟨bI, 0, none⟩)] (wc.drewN n) fun e w' => e = .returned (.tuple #[]) ∧ FillOut (wc.drewN n) w' A g r wp i (ev ae) lb lr) := fun n => by
              rw [HbI.out]
              refine fill_c (hst2.out.bio.draws n) (by omega) ?_ H0.out
              show wc.cell? _ = _
              rw [hst2.out.kp.cell (p := ⟨0, 0, none⟩) (lt_of_cell He.out) H0.out]; exact He.out
            go_wp2_with fail
            go_quiet ((go_at_call 91; refine Calls.quiet_of (hBf.out _)))
            go_wp2_with fail
            go_quiet (fail)
            go_wp2_with ((go_at_call 92; refine (hF.out _).mono ?_; rintro e w2 ⟨rfl, hfo⟩; have Hfo := hide hfo; clear hfo))
            obtain ⟨⟨g', r', wp', i', err', lb', lr', pr', h1⟩, h2⟩ := rs_more (hst2.out.draws _) hno2.out Hfo.out
            refine ⟨⟨rfl, wp - r, g', r', wp', i', err', lb', lr', pr', ?_, h1⟩, ?_⟩
            · have : ((wp - r : Nat) : Int) = (wp : Int) - r := by omega
              rw [this]
            · rw [← hmu.out]; exact h2
        · have hEv : err = .iface 95 (.pointer (some ae)) := by
            rcases hst2.out.eok with e | e
            · exact absurd e hE
            · exact e.1
          have HE : Hid (err ≠ .nilIface) := hE
          subst hEv
          clear hE
          have c4 : wc.cell? ⟨bI, 4, none⟩ = some (.iface 95 (.pointer (some ae))) := by rw [HbI.out]; exact hst2.out.bio.bio.cell rfl
          have hRE : Hid (∀ (wx : World), wx.heap = (wc.setCell ⟨bI, 2, none⟩ (.int .i64 wp)).heap → Calls Tryz.prog 90 #[.pointer (some ⟨bI, 0, none⟩)] wx fun e w' => e = .returned (.iface 95 (.pointer (some ae))) ∧ w' = wx.setCell ⟨bI, 4, none⟩ .nilIface) := fun wx hwx => by
            rw [HbI.out] at hwx ⊢
            have hk : Kp (fun k => k = A.bI) wc (wc.setCell ⟨A.bI, 2, none⟩ (.int .i64 wp)) := (Kp.refl (fun k => k = A.bI) wc).setCell (p := ⟨A.bI, 2, none⟩) (.inl rfl) _
            have hb := hst2.out.bio.bio.store 2 (.int .i64 wp)
            have hB := hst2.out.bio.turn hk (r' := wp) (Nat.le_refl _) (by simpa using hb)
            exact readErr_c ⟨hB.bio.heap hwx, hB.buf.heap hwx, hB.rd.heap hwx, hB.gl, hB.rw, hB.wl, hB.il, ⟨hB.ok.ib, hB.ok.ir, hB.ok.br, hB.ok.len, hB.ok.cp, hB.ok.cp2, fun hn => by
              obtain ⟨b, o, h1, h2, h3, h4⟩ := hB.ok.src hn
              refine ⟨b, o, h1, h2, by rw [hwx]; exact h3, fun j hj => ?_⟩
              rw [← h4 j hj]
              simp only [World.cell?, hwx]⟩⟩
          by_cases hrw4 : r = 4096
          · obtain rfl := hrw4
            obtain rfl : wp = 4096 := by omega
            go_wp2_with fail
            go_quiet (fail)
            go_wp2_with ((go_at_call 90; refine (hRE.out _ (by exact rfl)).mono ?_; rintro e w2 ⟨rfl, rfl⟩))
            go_ret2
            have e1 := HbI.out
            have e2 := HbB.out
            subst e1 e2
            exact rs_end0 hst2.out hno2.out HE.out rfl _ _ (Nat.zero_le _) _ _ rfl rfl rfl rfl rfl rfl
          · have hrw4' : ¬ 4096 = r := fun e => hrw4 e.symm
            by_cases hrwp : r < wp
            · have h1 : ¬ (wp : Int) - r < 1 := by omega
              obtain ⟨c, hc⟩ : ∃ c : UInt8, wc.cell? ⟨bB, r + (wp - r - 1), none⟩ = some (.int .u8 c.toNat) := by
                have := hst2.out.bio.gl
                rw [HbB.out]
                exact ⟨_, hst2.out.bio.buf.byte (j := r + (wp - r - 1)) (by omega)⟩
              go_wp2_with fail
              go_quiet (fail)
              go_wp2_with ((go_at_call 90; refine (hRE.out _ (by exact rfl)).mono ?_; rintro e w2 ⟨rfl, rfl⟩))
              go_ret2
              have e1 := HbI.out
              have e2 := HbB.out
              subst e1 e2
              exact rs_end1 hst2.out hno2.out HE.out _ _ _ rfl rfl rfl rfl
            · obtain rfl : r = wp := by omega
              go_wp2_with fail
              go_quiet (fail)
              go_wp2_with ((go_at_call 90; refine (hRE.out _ (by exact rfl)).mono ?_; rintro e w2 ⟨rfl, rfl⟩))
              go_ret2
              have e1 := HbI.out
              have e2 := HbB.out
              subst e1 e2
              refine rs_end0 hst2.out hno2.out HE.out rfl _ _ (Nat.le_refl _) _ _ ?_ rfl rfl rfl rfl rfl
              omega
    · have hab : wp - (r + s) = a.length + 1 + b.length := by
        have h1 := congrArg List.length hs
        rw [List.length_drop, seg_len hst.out.bio.gl hst.out.bio.wl] at h1
        simp at h1; omega
      rw [hs, ib_at b ha] at hIx
      have Hs := hide hs
      have Ha := hide ha
      obtain ⟨c, hc⟩ := hcell.out (s + a.length) (by omega)
      have hc' : wr.cell? ⟨bB, r + (r + (a.length + s) + 1 - r - 1), none⟩ = some (.int .u8 c.toNat) := by rw [show r + (r + (a.length + s) + 1 - r - 1) = r + (s + a.length) by omega]; exact hc
      have h4 : ¬ 4096 = r + s := by omega
      have h5 : ¬ 4096 = r := by omega
      have hal : (r : Int) + s + a.length + 1 ≤ wp := by omega
      clear hc hab hs ha
      go_wp2_with fail
      go_quiet ((go_at_call 74; refine Calls.quiet_of_same (hIx.out _ _ (fun _ => rfl))))
      go_wp2_with fail
      go_quiet (fail)
      go_wp2_with fail
      go_ret2
      have e1 := HbI.out
      have e2 := HbB.out
      subst e1 e2
      refine rs_found' hst.out Hs.out Ha.out _ _ _ _ ?_ _ ?_ rfl rfl rfl rfl
      · push_cast; omega
      · omega
end Go.Proofs.Qxb6615582aGreatFmt
