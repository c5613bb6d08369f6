import Derived.Test.Qxb6615582aGreatFmtLvd
import Derived.Test.Qxb6615582aGreatFmtLvc
import Derived.Deep.CutBlock
namespace Go.Proofs.Qxb6615582aGreatFmt
open Go.RowKit
attribute [local go_sem] Go.wp_at_zero Go.wp_at_succ
section
variable {w0 : World} {T0 : Nat → Nat} {w : World} {T : Nat → Nat} {A : RA} {cB : Nat} {ae ab aq abq : Addr} {N st pB qB : Nat} {U : Bs} {n : Nat} {off : Int} {rb : Value} {ar : Option Addr} {cr : Nat} {af : Option Addr} {cf : Nat} {ap : Option Addr} {cp : Nat} {ps : List (Int × Int)} {pl pc ql qc : Int} {fs : List Bs} {X : Out} {l buf : Bs} {b o cap N1 : Nat} {R : Bs} {ix : List Nat} {f : Nat → Value} {J R2 R3 : Act → World → Prop}
set_option maxRecDepth 1000000 in
set_option maxHeartbeats 8000000 in
theorem rD0 (h0 : f 0 = .pointer (some ⟨cB, 0, none⟩)) (h1 : f 1 = .slice none 0 0) (h6 : f 6 = .slice (some ⟨b, o, none⟩) N1 cap) (h7 : f 7 = .nilIface) (h8 : f 8 = .nilIface) (h9 : f 9 = .int .i64 1) (h10 : f 10 = .int .i64 st) (h11 : f 11 = .pointer (some ⟨pB, 0, none⟩)) (h17 : f 17 = .pointer (some ⟨qB, 0, none⟩))
    (hW : Wk w0 T0 w T A cB ae N st pB U n off rb ar cr af cf ap cp R ix ps pl pc) (hR : R = fs.flatten ++ buf) (hix : ix = cumF 0 fs) (ph : ∀ p, ps.head? = some p → p.1 = (st : Int)) (hlen : ps.length = fs.length) (htot : R.length + fs.length + l.length + U.length ≤ 2000000) (hqp : qB ≠ pB) (hq : Ps w T qB ql qc) (hql : ps = [] → ql = st) (hlv : Lv w T (.slice (some ⟨b, o, none⟩) N1 cap) l) (hqd : Qd X l U buf fs n) (hg : G0 w0 T0 ae ab aq abq) (hN : N ≤ 1099511626000) (hne : l ≠ []) (h34 : 34 ∉ l) (hU : U = [])
    (hJ : ∀ a' w', IQ3 w0 T0 A cB ae N st pB qB X ((trimCR (raw U).1).length + (raw U).2.length) a' w' → J a' w') : Code.wp Tryz.prog (bd4 Tryz.f55.body) (Exit.then J (QY R3 R2)) (Fr f) w := by
  obtain ⟨hN1, hcp1, hcp2, -⟩ := hlv.facts
  have HI := hide (idx_lv (c := 34) hlv)
  rw [ib_no h34] at HI
  have hN1p : (0 : Int) < N1 := by cases l with | nil => exact absurd rfl hne | cons c r => simp at hN1; omega
  have hNb : (N1 : Int) ≤ 2000000 := by omega
  have HA := hide (fun (W : World) e1 e2 e3 e4 => Rr.app_line hW.rr hlv W e1 e2 e3 e4 (by omega))
  have c11 : w.cell? ⟨cB, 11, none⟩ = some (.slice ar R.length cr) := hW.cell rfl
  have p1 : w.cell? ⟨pB, 1, none⟩ = some (.int .i64 pc) := hW.pos.blk.cell rfl
  have pf := hW.pos.blk.free 1
  have hpt := hW.pos.tag
  obtain ⟨hn1, hn2⟩ := hW.ne
  obtain ⟨lx, hlxx⟩ : ∃ lx, trimCR (raw U).1 = lx := ⟨_, rfl⟩
  have Hlxx := hide hlxx
  have hl0 : (trimCR (raw U).1).length = 0 := by rw [hU]; rfl
  have HE := hide (show (if U = [] then ev ae else .nilIface) = .iface 95 (.pointer (some ae)) from if_pos hU)
  have HW := hide hW
  have Hlv := hide hlv
  have Hq := hide hq
  have Hqd := hide hqd
  have Hg := hide hg
  have Hqp := hide hqp
  have HR := hide hR
  have Hix := hide hix
  have Hph := hide ph
  have Hql := hide hql
  have Htot := hide htot
  have Hlen := hide hlen
  have HN1 := hide hN1
  have Hne := hide hne
  have H34 := hide h34
  have HU := hide hU
  have Hpt := hide hpt
  have Hl0 := hide hl0
  rw [hlxx] at hl0
  clear hW hlv hq hqd hg hqp hR hix ph hql htot hlen hN1 hne h34 hU hlxx hpt hl0
  conv => arg 2; whnf
  unfold Fr
  rw [h0, h1, h6, h7, h8, h9, h10, h11, h17]
  clear h0 h1 h6 h7 h8 h9 h10 h11 h17
  go_upto_region 72 with (first | (go_at_call 74; refine HI.out.mono ?_; rintro e w2 ⟨rfl, hw2⟩; obtain rfl := hw2) | (at_builtin; refine wpList_app2 (by rfl) (.tmp 405) (.tmp 406) 22 (by rfl) (by rfl) (by rfl) (HA.out _ (by exact rfl) (by exact rfl) (by exact rfl) (by exact rfl)) ?_; rintro ao4 cap4 w4 ⟨d11, d12, d13, df, dk, hfin⟩; have p14 : w4.cell? ⟨pB, 1, none⟩ = some (.int .i64 pc) := (by rw [dk.cell (p := ⟨pB, 1, none⟩) (lt_of_cell p1) (fun (e : T pB = 6) => by have := Hpt.out; omega)]; exact p1); have pf4 : w4.frozen? ⟨pB, 1, none⟩ = false := (by rw [World.frozen?_of_block (a := ⟨pB, 1, none⟩) (dk.block pB (lt_of_cell p1) (fun (e : T pB = 6) => by have := Hpt.out; omega))]; exact pf); clear dk))
  obtain ⟨T4, r4, k4, q4⟩ := hfin.out _ rfl rfl rfl rfl
  have htot := Htot.out
  have hN1 := HN1.out
  have W4k := HW.out.grow_rec (ar' := ao4) (cr' := cap4) (R' := R ++ l) (by rw [List.length_append, ← hN1]) r4 k4 q4 (by rw [List.length_append]; omega)
  have Q4 := Hq.out.kept k4 (fun k e => by omega) q4
  have HC := hide (fun (x : Int) (W : World) e1 e2 e3 e4 => (W4k.col x W e1 e2 e3 e4).1.readLine Hg.out (by omega) (Q4.other (W4k.col x W e1 e2 e3 e4).2 Hqp.out))
  rw [HE.out, Hlxx.out] at HC
  have HG5 := hide (fun (w' : World) (T' : Nat → Nat) (hj : Jx w0 T0 w' T') => Hg.out.at_ hj)
  clear hfin r4 k4 q4 W4k Q4 d11 d12 d13 df p14 pf4 p1 pf c11 HI HA hN1 htot
  have hl0 := Hl0.out; rw [Hlxx.out] at hl0; rw [hl0] at HC; clear hl0
  go_upto_region 73 with ((go_at_call 66; refine (HC.out _ _ (by exact rfl) (by exact rfl) (by exact rfl) (by exact rfl)).mono ?_; rintro e w5 ⟨b5, o5, cap5, T5, off5, rb5, rfl, hw5, hq5, hl5⟩; have HW5 := hide hw5; have HQ5 := hide hq5; have HL5 := hide hl5; clear hw5 hq5 hl5))
  clear HC
  have g0 : w5.cell? ⟨0, 0, none⟩ = some (.iface 95 (.pointer (some ae))) := (HG5.out w5 T5 HW5.out.jx).e0.er.cell
  have p0 : w5.cell? ⟨pB, 0, none⟩ = some (.int .i64 pl) := HW5.out.pos.blk.cell rfl
  have f0 := HW5.out.pos.blk.free 0
  have f1 := HW5.out.pos.blk.free 1
  have p1 : ∃ pc5, w5.cell? ⟨pB, 1, none⟩ = some (.int .i64 pc5) := ⟨_, HW5.out.pos.blk.cell rfl⟩
  obtain ⟨pc5, p1⟩ := p1
  have hq0 := Er.same (w := w5) ae
  go_wp2
  have W6k := HW5.out
  have Q6 := HQ5.out
  have L6 := HL5.out
  have htot := Htot.out
  have hnb := HW.out.nb
  have hrl : (trimCR (raw U).1).length + (raw U).2.length ≤ U.length ∧ (raw U).2.length = 0 := by
    rw [HU.out]; exact ⟨Nat.le_refl _, rfl⟩
  rw [Hlxx.out] at hrl
  refine ⟨⟨rfl, rfl, rfl, rfl, rfl, rfl, rfl⟩, rfl, rfl, rfl, T5, (raw U).2, n + 1, off5, rb5, _, _, af, cf, ap, cp, _, ix, ps, _, _, fs, buf ++ l, lx, ql, qc, W6k.nb' ?_, ?_, Hix.out, Hph.out, Hlen.out, ?_, Hqp.out, Q6, Hql.out, ?_, ?_, by rw [Hlxx.out], ?_⟩
  · omega
  · rw [HR.out, List.append_assoc]
  · rw [List.length_append]; omega
  · exact L6
  · have h5 := Hqd.out.next H34.out Hne.out
    rw [Hlxx.out] at h5
    exact h5
  · intro _; rename_i hx; exact absurd (List.eq_nil_of_length_eq_zero (by have := Hl0.out; rw [Hlxx.out] at this; exact this)) hx
end
end Go.Proofs.Qxb6615582aGreatFmt
