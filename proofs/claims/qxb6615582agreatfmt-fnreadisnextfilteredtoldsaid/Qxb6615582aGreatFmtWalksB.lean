import Derived.Test.Qxb6615582aGreatFmtBio
import Derived.Deep.RegionHeld
namespace Go.Proofs.Qxb6615582aGreatFmt
open Go.RowKit

theorem lt_of_cell {w : World} {p : Addr} {v : Value} (h : w.cell? p = some v) : p.block < w.heap.size := by
  rcases Nat.lt_or_ge p.block w.heap.size with h1 | h1
  · exact h1
  · simp [World.cell?, Array.getElem?_eq_none h1] at h
theorem drewN_add (w : World) (a b : Nat) : (w.drewN a).drewN b = w.drewN (a + b) := by
  unfold World.drewN
  simp [Nat.add_assoc]
def ev (a : Addr) : Value := .iface 95 (.pointer (some a))

/-- What fill leaves. -/
structure FillOut (w w' : World) (A : RA) (g : Bs) (r wp i : Nat) (ve : Value) (lb lr : Int) : Prop where
  kp : Kp A.F w w'
  bio : ∃ g' wp' i' err' pr', Bio w' A g' 0 wp' i' err' lb lr pr' ∧ unr A g' 0 wp' i' = unr A g r wp i ∧ wp - r ≤ wp' ∧ ((err' = .nilIface ∧ i < i') ∨ (err' = ve ∧ i' = A.D.length))

/-- A cell of the buffered text. -/
theorem seg_cell {w : World} {bB r wp j : Nat} {g : Bs} {v : Value} (hb : Blk w bB 5 (bcs g).toArray) (hg : g.length = 4096) (hw : wp ≤ 4096) (hj : (bcs ((g.take wp).drop r))[j]? = some v) : w.cell? ⟨bB, r + j, none⟩ = some v := by
  have h1 := (List.getElem?_eq_some_iff.1 hj).1
  rw [bcs_length] at h1
  simp only [List.length_drop, List.length_take] at h1
  rw [hb.byte (j := r + j) (by omega), ← hj, bcs_at _ (by simp; omega)]
  simp

/-- The slide's relation. -/
theorem slide_rel {w w2 : World} {bI bB rB cap : Nat} {ao : Option Addr} {D g : Bs} {r wp i : Nat} {lb lr pr : Int} {cs : List Value} (h : Bio w ⟨bI, bB, rB, ao, cap, D⟩ g r wp i .nilIface lb lr pr) (hb : Blk w2 bB 5 (splice (bcs g) 0 cs).toArray) (hk : Kp (fun k => k = bB) w w2) (hcs : cs = bcs ((g.take wp).drop r))
    (hi : Blk w2 bI 158 #[.slice (some ⟨bB, 0, none⟩) 4096 4096, .iface 64 (.pointer (some ⟨rB, 0, none⟩)), .int .i64 r, .int .i64 wp, .nilIface, .int .i64 lb, .int .i64 lr])
    (wx : World) (v3 : Int) (hv : v3 = (wp : Int) - r) (e1 : wx.heap = ((w2.setCell ⟨bI, 3, none⟩ (.int .i64 v3)).setCell ⟨bI, 2, none⟩ (.int .i64 0)).heap) (e2 : wx.os = w2.os) (e3 : wx.tape = w2.tape) (e4 : wx.output = w2.output) :
    Hid (∃ g1 : Bs, Bio wx ⟨bI, bB, rB, ao, cap, D⟩ g1 0 (wp - r) i .nilIface lb lr pr ∧ unr ⟨bI, bB, rB, ao, cap, D⟩ g1 0 (wp - r) i = unr ⟨bI, bB, rB, ao, cap, D⟩ g r wp i ∧ Kp (RA.F ⟨bI, bB, rB, ao, cap, D⟩) w wx) := by
  have hk0 : Kp (RA.F ⟨bI, bB, rB, ao, cap, D⟩) w ((w2.setCell ⟨bI, 3, none⟩ (.int .i64 v3)).setCell ⟨bI, 2, none⟩ (.int .i64 0)) :=
    ((hk.mono (fun k _ e => .inr (.inl e))).setCell (p := ⟨bI, 3, none⟩) (.inl (.inl rfl)) _).setCell (p := ⟨bI, 2, none⟩) (.inl (.inl rfl)) _
  have hkF : Kp (RA.F ⟨bI, bB, rB, ao, cap, D⟩) w wx := ⟨e2.trans hk.os, e3.trans hk.tape, e4.trans hk.output, by rw [e1]; exact hk0.size, fun k h1 h2 => by rw [e1]; exact hk0.block k h1 h2⟩
  refine ⟨slid g r wp, ⟨?_, ?_, ?_, slid_length h.gl h.wl, Nat.zero_le _, by have := h.wl; omega, h.il, h.ok.later hkF (fun _ _ e => e)⟩, unr_slid h.gl h.wl h.rw, hkF⟩
  · have h1 := (hi.store 3 (.int .i64 v3)).store 2 (.int .i64 0)
    have h2 : ((wp - r : Nat) : Int) = v3 := by have := h.rw; omega
    rw [h2]
    unfold Blk at h1 ⊢
    rw [e1]
    simpa using h1
  · have h1 : Blk w2 bB 5 (bcs (slid g r wp)).toArray := by
      unfold slid
      rw [← splice_bcs, ← hcs]; exact hb
    have h2 := (h1.other (p := ⟨bI, 3, none⟩) h.ok.ib.symm (.int .i64 v3)).other (p := ⟨bI, 2, none⟩) h.ok.ib.symm (.int .i64 0)
    unfold Blk at h2 ⊢
    rw [e1]; exact h2
  · have h1 := h.rd.kept (F := fun k => k = bB) hk h.ok.br.symm
    have h2 := (h1.other (p := ⟨bI, 3, none⟩) h.ok.ir.symm (.int .i64 v3)).other (p := ⟨bI, 2, none⟩) h.ok.ir.symm (.int .i64 0)
    unfold Blk at h2 ⊢
    rw [e1]; exact h2

/-- fill's read, joined. -/
theorem fill_rel {w wc w2 : World} {A : RA} {g g1 : Bs} {r wp q i m : Nat} {lb lr pr : Int} {ve : Value} (hK : Kp A.F w wc) (hB : Bio wc A g1 0 q i .nilIface lb lr pr) (hU : unr A g1 0 q i = unr A g r wp i) (hr : ReadOut wc w2 A.rB A.bB q (.slice A.ao A.D.length A.cap) (bcs g1) i m A.D) (hq : wp - r ≤ q) (hm1 : 1 ≤ m) (hm2 : i + m ≤ A.D.length) (hm3 : q + m ≤ 4096)
    (wx : World) (e1 : wx.heap = (w2.setCell ⟨A.bI, 3, none⟩ (.int .i64 ((q : Int) + m))).heap) (e2 : wx.os = w2.os) (e3 : wx.tape = w2.tape) (e4 : wx.output = w2.output) : FillOut w wx A g r wp i ve lb lr := by
  have hk1 : Kp A.F wc (w2.setCell ⟨A.bI, 3, none⟩ (.int .i64 ((q : Int) + m))) := (hr.kp.mono (fun k _ e => by rcases e with e | e; exact .inr (.inr e); exact .inr (.inl e))).setCell (p := ⟨A.bI, 3, none⟩) (.inl (.inl rfl)) _
  have hkc : Kp A.F wc wx := ⟨e2.trans hr.kp.os, e3.trans hr.kp.tape, e4.trans hr.kp.output, by rw [e1]; exact hk1.size, fun k h1 h2 => by rw [e1]; exact hk1.block k h1 h2⟩
  refine ⟨hK.trans (hkc.mono (fun k _ e => .inl e)), splice g1 q ((A.D.drop i).take m), q + m, i + m, .nilIface, -1, ⟨?_, ?_, ?_, ?_, Nat.zero_le _, hm3, hm2, hB.ok.later hkc (fun _ _ e => e)⟩, ?_, by omega, .inl ⟨rfl, by omega⟩⟩
  · have h1 := (hB.bio.kept (F := fun k => k = A.rB ∨ k = A.bB) hr.kp (fun e => by rcases e with e | e; exact hB.ok.ir e; exact hB.ok.ib e)).store 3 (.int .i64 ((q : Int) + m))
    unfold Blk at h1 ⊢
    rw [e1]
    simpa using h1
  · have h1 := hr.buf.other (p := ⟨A.bI, 3, none⟩) hB.ok.ib.symm (.int .i64 ((q : Int) + m))
    rw [splice_bcs] at h1
    unfold Blk at h1 ⊢
    rw [e1]; exact h1
  · have h1 := hr.rd.other (p := ⟨A.bI, 3, none⟩) hB.ok.ir.symm (.int .i64 ((q : Int) + m))
    unfold Blk at h1 ⊢
    rw [e1]; exact h1
  · have := hB.gl
    rw [length_splice _ _ _ (by simp; omega)]; exact hB.gl
  · rw [unr_fill hB.gl hm3 hm2, hU]

/-- fill at the text's end. -/
theorem fill_rel2 {w wc w2 : World} {A : RA} {g g1 : Bs} {r wp q i : Nat} {lb lr pr : Int} {ve : Value} (hK : Kp A.F w wc) (hB : Bio wc A g1 0 q i .nilIface lb lr pr) (hU : unr A g1 0 q i = unr A g r wp i) (hw2 : ∃ k, w2 = wc.drewN k) (hq : wp - r ≤ q) (hi : ¬ i < A.D.length) (x : Int) (hx : x = q)
    (wx : World) (e1 : wx.heap = ((w2.setCell ⟨A.bI, 3, none⟩ (.int .i64 x)).setCell ⟨A.bI, 4, none⟩ ve).heap) (e2 : wx.os = w2.os) (e3 : wx.tape = w2.tape) (e4 : wx.output = w2.output) : FillOut w wx A g r wp i ve lb lr := by
  subst hx
  obtain ⟨k, rfl⟩ := hw2
  have hk1 : Kp A.F wc (((wc.drewN k).setCell ⟨A.bI, 3, none⟩ (.int .i64 q)).setCell ⟨A.bI, 4, none⟩ ve) := (((Kp.refl A.F wc).drewN k).setCell (p := ⟨A.bI, 3, none⟩) (.inl (.inl rfl)) _).setCell (p := ⟨A.bI, 4, none⟩) (.inl (.inl rfl)) _
  have hkc : Kp A.F wc wx := ⟨e2, e3, e4, by rw [e1]; exact hk1.size, fun k h1 h2 => by rw [e1]; exact hk1.block k h1 h2⟩
  refine ⟨hK.trans (hkc.mono (fun k _ e => .inl e)), g1, q, i, ve, pr, ⟨?_, ?_, ?_, hB.gl, Nat.zero_le _, hB.wl, hB.il, hB.ok.later hkc (fun _ _ e => e)⟩, hU, hq, .inr ⟨rfl, ?_⟩⟩
  · have h1 := ((hB.bio.drewN k).store 3 (.int .i64 q)).store 4 ve
    unfold Blk at h1 ⊢
    rw [e1]
    simpa using h1
  · have h1 := ((hB.buf.drewN k).other (p := ⟨A.bI, 3, none⟩) hB.ok.ib.symm (.int .i64 q)).other (p := ⟨A.bI, 4, none⟩) hB.ok.ib.symm ve
    unfold Blk at h1 ⊢
    rw [e1]; exact h1
  · have h1 := ((hB.rd.drewN k).other (p := ⟨A.bI, 3, none⟩) hB.ok.ir.symm (.int .i64 q)).other (p := ⟨A.bI, 4, none⟩) hB.ok.ir.symm ve
    unfold Blk at h1 ⊢
    rw [e1]; exact h1
  · have := hB.il; omega

set_option maxRecDepth 100000 in
set_option maxHeartbeats 2000000 in
theorem fill_c {w : World} {A : RA} {g : Bs} {r wp i : Nat} {lb lr pr : Int} {ae : Addr} (h : Bio w A g r wp i .nilIface lb lr pr) (hlt : wp - r < 4096) (he : w.cell? ⟨0, 0, none⟩ = some (ev ae)) (h0 : ¬ A.F 0) :
    Calls Tryz.prog 92 #[.pointer (some ⟨A.bI, 0, none⟩)] w fun e w' => e = .returned (.tuple #[]) ∧ FillOut w w' A g r wp i (ev ae) lb lr := by
  obtain ⟨bI, bB, rB, ao, cap, D⟩ := A
  simp only at *
  have c0 : w.cell? ⟨bI, 0, none⟩ = some (.slice (some ⟨bB, 0, none⟩) 4096 4096) := h.bio.cell rfl
  have c2 : w.cell? ⟨bI, 2, none⟩ = some (.int .i64 r) := h.bio.cell rfl
  have c3 : w.cell? ⟨bI, 3, none⟩ = some (.int .i64 wp) := h.bio.cell rfl
  have f2 := h.bio.free 2
  have f3 := h.bio.free 3
  have hrw : (r : Int) ≤ wp := by have := h.rw; omega
  have hwl : (wp : Int) ≤ 4096 := by have := h.wl; omega
  have H := hide h
  have He := hide he
  have H0 := hide h0
  clear h he h0
  go_enter Tryz.func92, Tryz.ntmps92
  go_upto_if 9 with fail
  go_cut [] (fun wx => Hid (∃ g1 : Bs, Bio wx ⟨bI, bB, rB, ao, cap, D⟩ g1 0 (wp - r) i .nilIface lb lr pr ∧ unr ⟨bI, bB, rB, ao, cap, D⟩ g1 0 (wp - r) i = unr ⟨bI, bB, rB, ao, cap, D⟩ g r wp i ∧ Kp (RA.F ⟨bI, bB, rB, ao, cap, D⟩) w wx))
  case first =>
    by_cases hr : 0 < r
    · have hr' : (0 : Int) < r := by omega
      obtain ⟨cs, hcs⟩ : ∃ cs, cs = bcs ((g.take wp).drop r) := ⟨_, rfl⟩
      have Hcs := hide hcs
      have hcl : Hid (cs.length = wp - r) := by
        rw [hcs, bcs_length]
        have := H.out.gl
        have := H.out.wl
        show _ = _
        simp; omega
      have hcn : Hid (cs.length = Nat.min (wp - r) 4096) := by
        have := H.out.wl
        rw [hcl.out]
        show _ = min _ _
        omega
      have hone : Hid (∀ v ∈ cs, v.oneCell' = true) := by rw [hcs]; exact one_bcs _
      have hfit : Hid (0 + cs.length ≤ (bcs g).length) := by
        have := H.out.gl
        have := H.out.wl
        have := hcl.out
        rw [bcs_length]
        show _ ≤ _
        omega
      clear hcs
      obtain ⟨row, hrow⟩ : ∃ row, row = (splice (bcs g) 0 cs).toArray := ⟨_, rfl⟩
      have Hrow := hide hrow
      clear hrow
      by_cases hrc : r = 4096
      · obtain rfl := hrc
        obtain rfl : wp = 4096 := by have := H.out.wl; omega
        have hrun : Sem.run Tryz.prog (Builtin.copy_ #[22, 22] 3 #[.slice (some ⟨bB, 0, none⟩) 4096 4096, .slice (some ⟨bB, 0, none⟩) 0 0]) w.drew = .ok (goInt 0) w.drew := run_copy_none w.drew 22 22 3 5 _ _ 4096 4096 0 0 Tryz.underlying22 Tryz.info5' rfl
        have hk3 : Hid (Kp (fun k => k = bB) w w) := Kp.refl _ _
        have hb2 : Hid (Blk w bB 5 (splice (bcs g) 0 cs).toArray) := by
          obtain rfl : cs = [] := List.eq_nil_of_length_eq_zero (by have := hcl.out; omega)
          show Blk _ _ _ _
          simpa [splice] using H.out.buf
        have hi2 := hide H.out.bio
        go_wp2
        go_region
        all_goals
          have d2 : w.cell? ⟨bI, 2, none⟩ = some (.int .i64 4096) := hi2.out.cell rfl
          have d3 : w.cell? ⟨bI, 3, none⟩ = some (.int .i64 4096) := hi2.out.cell rfl
          have e2 := hi2.out.free 2
          have e3 := hi2.out.free 3
          clear hrun
          go_wp2
          go_region
          all_goals
            go_wp2
            go_meet
            exact slide_rel H.out hb2.out hk3.out Hcs.out hi2.out _ _ (by first | rfl | omega) rfl rfl rfl rfl
      · have hrc' : ¬ (4096 : Nat) = r := fun e => hrc e.symm
        have hrun : Sem.run Tryz.prog (Builtin.copy_ #[22, 22] 3 #[.slice (some ⟨bB, 0, none⟩) 4096 4096, .slice (some ⟨bB, r, none⟩) (wp - r) (4096 - r)]) w.drew = .ok (goInt ((wp - r : Nat) : Int)) (w.drew.setRow bB row) := by
          have h1 := run_copy_row (P := Tryz.prog) w.drew 22 22 3 5 bB 0 4096 4096 ⟨bB, r, none⟩ (wp - r) (4096 - r) (bcs g).toArray 5 cs Tryz.underlying22 Tryz.info5' H.out.buf hcn.out (fun j v hj => by
            rw [add_none]
            exact seg_cell (w := w) H.out.buf H.out.gl H.out.wl (by rw [Hcs.out] at hj; exact hj)) (by simpa using hfit.out) hone.out
          rw [h1, hcl.out, Hrow.out]
          simp [splice]
          rw [hcl.out]
        have hk3 : Hid (Kp (fun k => k = bB) w (w.drew.setRow bB row)) := ⟨rfl, rfl, rfl, by simp [World.setRow], fun k _ hk => setRow_other w.drew bB k _ hk⟩
        have hb2 : Hid (Blk (w.drew.setRow bB row) bB 5 (splice (bcs g) 0 cs).toArray) := by
          rw [← Hrow.out]
          exact setRow_heap w.drew bB _ _ 5 _ H.out.buf
        have hi2 := hide (H.out.bio.kept (F := fun k => k = bB) hk3.out H.out.ok.ib)
        go_wp2
        go_region
        all_goals
          have d2 : (w.drew.setRow bB row).cell? ⟨bI, 2, none⟩ = some (.int .i64 r) := hi2.out.cell rfl
          have d3 : (w.drew.setRow bB row).cell? ⟨bI, 3, none⟩ = some (.int .i64 wp) := hi2.out.cell rfl
          have e2 := hi2.out.free 2
          have e3 := hi2.out.free 3
          clear hrun
          go_wp2
          go_region
          all_goals
            go_wp2
            go_meet
            exact slide_rel H.out hb2.out hk3.out Hcs.out hi2.out _ _ (by first | rfl | omega) rfl rfl rfl rfl
    · have hr' : ¬ (0 : Int) < r := by omega
      obtain rfl : r = 0 := by omega
      go_wp2
      go_meet
      exact ⟨g, H.out, rfl, Kp.refl _ _⟩
  case rest =>
    obtain ⟨g1, hB, hU, hK⟩ := hcut.out
    obtain ⟨q, hq⟩ : ∃ q, wp - r = q := ⟨_, rfl⟩
    rw [hq] at hB hU hlt
    have Hq := hide hq
    clear hcut c0 c2 c3 f2 f3 hq
    have c0 : wc.cell? ⟨bI, 0, none⟩ = some (.slice (some ⟨bB, 0, none⟩) 4096 4096) := hB.bio.cell rfl
    have c1 : wc.cell? ⟨bI, 1, none⟩ = some (.iface 64 (.pointer (some ⟨rB, 0, none⟩))) := hB.bio.cell rfl
    have c3 : wc.cell? ⟨bI, 3, none⟩ = some (.int .i64 q) := hB.bio.cell rfl
    have f3 := hB.bio.free 3
    have f4 := hB.bio.free 4
    have hql : (q : Int) < 4096 := by omega
    have hq4 : ¬ (4096 : Int) ≤ q := by omega
    have hq5 : ¬ (4096 : Nat) = q := by omega
    have HB := hide hB
    have HU := hide hU
    have HK := hide hK
    clear hB hU hK
    by_cases hi : i < D.length
    · have hm : ∀ w : World, (method 319 64 (.pointer (some ⟨rB, 0, none⟩)) "Read").run Tryz.prog w = .ok (117, .pointer (some ⟨rB, 0, none⟩)) w := fun _ => by kernel_rfl
      obtain ⟨sb, so, hao, hsF, hslt, hsc⟩ := HB.out.ok.src (fun e => by simp only at e; rw [e] at hi; exact absurd hi (Nat.not_lt_zero _))
      simp only at hao hsc
      subst hao
      obtain ⟨m, hmm⟩ : ∃ m, min (D.length - i) (4096 - q) = m := ⟨_, rfl⟩
      have hm1 : m ≤ D.length - i := by omega
      have hm2 : m ≤ 4096 - q := by omega
      have hm3 : 1 ≤ m := by omega
      have Hmm := hide hmm
      have HR : Hid (∀ k, Calls Tryz.prog 117 #[.pointer (some ⟨rB, 0, none⟩), .slice (some ⟨bB, q, none⟩) (4096 - q) (4096 - q)] (wc.drewN k) fun e w' => e = .returned (.tuple #[.int .i64 (m : Int), .nilIface]) ∧ ReadOut wc w' rB bB q (.slice (some ⟨sb, so, none⟩) D.length cap) (bcs g1) i m D ∧ w'.cell? ⟨bI, 0, none⟩ = some (.slice (some ⟨bB, 0, none⟩) 4096 4096) ∧ w'.cell? ⟨bI, 1, none⟩ = some (.iface 64 (.pointer (some ⟨rB, 0, none⟩))) ∧ w'.cell? ⟨bI, 3, none⟩ = some (.int .i64 q) ∧ w'.frozen? ⟨bI, 3, none⟩ = false) := by
        intro k
        have h1 := bytesRead_c (w := wc.drewN k) (pc := 4096 - q) (n := 4096 - q) (off := q) HB.out.rd HB.out.ok.cp HB.out.ok.cp2 hi (by have hDl : D.length ≤ 1048576 := HB.out.ok.len; exact Nat.le_trans hDl (by decide)) hsc HB.out.buf (by rw [bcs_length, HB.out.gl]; omega) (by omega) HB.out.ok.br.symm (fun e => hsF (.inr (.inr e)))
        rw [hmm] at h1
        refine h1.mono ?_
        rintro e w' ⟨he, hr, hbf, hkk⟩
        have hb' := HB.out.bio.kept (F := fun k => k = rB ∨ k = bB) hkk.undrewN (fun e => by rcases e with e | e; exact HB.out.ok.ir e; exact HB.out.ok.ib e)
        exact ⟨he, ⟨hr, hbf, hkk.undrewN⟩, hb'.cell rfl, hb'.cell rfl, hb'.cell rfl, hb'.free 3⟩
      clear hmm hsc
      go_wp2
      go_region
      all_goals
        go_wp2
        go_loop [2] (fun v => v = .int .i64 100) (fun _ => 0)
        case atStart => rfl
        case round =>
          obtain rfl := hrel
          go_wp2_with fail
          go_region_held (fun w' => w'.cell? ⟨bI, 0, none⟩ = some (.slice (some ⟨bB, 0, none⟩) 4096 4096) ∧ w'.cell? ⟨bI, 1, none⟩ = some (.iface 64 (.pointer (some ⟨rB, 0, none⟩))) ∧ w'.cell? ⟨bI, 3, none⟩ = some (.int .i64 q)) (go_keep) ((go_at_call 117; refine (HR.out 2).mono ?_; rintro e w2 ⟨rfl, hro, k0, k1, k3, k4⟩; have Hro := hide hro; clear hro))
          all_goals
            have hmp : (0 : Int) < m := by omega
            go_wp2
            refine bodyPost_ret (results_none rfl _ _ _) rfl ?_
            exact ⟨rfl, fill_rel HK.out HB.out HU.out Hro.out (Nat.le_of_eq Hq.out) hm3 (show i + m ≤ D.length by omega) (by omega) _ rfl rfl rfl rfl⟩
    · have hm : ∀ w : World, (method 319 64 (.pointer (some ⟨rB, 0, none⟩)) "Read").run Tryz.prog w = .ok (117, .pointer (some ⟨rB, 0, none⟩)) w := fun _ => by kernel_rfl
      have he2 : wc.cell? ⟨0, 0, none⟩ = some (ev ae) := by
        rw [HK.out.cell (p := ⟨0, 0, none⟩) (lt_of_cell He.out) H0.out]; exact He.out
      have He2 := hide he2
      have HR : Hid (∀ k, Calls Tryz.prog 117 #[.pointer (some ⟨rB, 0, none⟩), .slice (some ⟨bB, q, none⟩) (4096 - q) (4096 - q)] (wc.drewN k) fun e w' => e = .returned (.tuple #[.int .i64 0, .iface 95 (.pointer (some ae))]) ∧ (∃ k2, w' = wc.drewN k2) ∧ w'.cell? ⟨bI, 0, none⟩ = some (.slice (some ⟨bB, 0, none⟩) 4096 4096) ∧ w'.cell? ⟨bI, 1, none⟩ = some (.iface 64 (.pointer (some ⟨rB, 0, none⟩))) ∧ w'.cell? ⟨bI, 3, none⟩ = some (.int .i64 q) ∧ w'.frozen? ⟨bI, 3, none⟩ = false ∧ w'.frozen? ⟨bI, 4, none⟩ = false ∧ w'.cell? ⟨bI, 4, none⟩ = some .nilIface) := by
        intro k
        have h1 := bytesRead_end (w := wc.drewN k) (po := some ⟨bB, q, none⟩) (pn := 4096 - q) (pc := 4096 - q) HB.out.rd (show D.length ≤ i by omega) He2.out
        refine h1.mono ?_
        rintro e w' ⟨he, k2, rfl⟩
        exact ⟨he, ⟨k + k2, drewN_add wc k k2⟩, (HB.out.bio.drewN k).drewN k2 |>.cell rfl, (HB.out.bio.drewN k).drewN k2 |>.cell rfl, (HB.out.bio.drewN k).drewN k2 |>.cell rfl, ((HB.out.bio.drewN k).drewN k2).free 3, ((HB.out.bio.drewN k).drewN k2).free 4, (HB.out.bio.drewN k).drewN k2 |>.cell rfl⟩
      clear he2
      go_wp2
      go_region
      all_goals
        go_wp2
        go_loop [2] (fun v => v = .int .i64 100) (fun _ => 0)
        case atStart => rfl
        case round =>
          obtain rfl := hrel
          go_wp2_with fail
          go_region_held (fun w' => w'.cell? ⟨bI, 0, none⟩ = some (.slice (some ⟨bB, 0, none⟩) 4096 4096) ∧ w'.cell? ⟨bI, 1, none⟩ = some (.iface 64 (.pointer (some ⟨rB, 0, none⟩))) ∧ w'.cell? ⟨bI, 3, none⟩ = some (.int .i64 q)) (go_keep) ((go_at_call 117; refine (HR.out 2).mono ?_; rintro e w2 ⟨rfl, hro, k0, k1, k3, k4, k5, k6⟩; have Hro := hide hro; clear hro))
          all_goals
            go_wp2
            refine bodyPost_ret (results_none rfl _ _ _) rfl ?_
            exact ⟨rfl, fill_rel2 HK.out HB.out HU.out Hro.out (Nat.le_of_eq Hq.out) hi _ (by first | rfl | omega | simp) _ rfl rfl rfl rfl⟩
end Go.Proofs.Qxb6615582aGreatFmt
