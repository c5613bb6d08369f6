import Derived.Test.Qxb6615582aGreatFmtSg61
import Derived.Test.Qxb6615582aGreatFmtSg62
import Derived.Test.Qxb6615582aGreatFmtSg64
import Derived.Test.Qxb6615582aGreatFmtSg65
import Derived.Test.Qxb6615582aGreatFmtLvc
import Derived.Test.Qxb6615582aGreatFmtSg49
import Derived.Deep.CutBlock
namespace Go.Proofs.Qxb6615582aGreatFmt
open Go.RowKit
attribute [local go_sem] Go.wp_at_zero Go.wp_at_succ
section
variable {w0 : World} {T0 : Nat → Nat} {w : World} {T : Nat → Nat} {A : RA} {cB : Nat} {ae ab aq abq : Addr} {N st pB qB : Nat} {U : Bs} {n : Nat} {off : Int} {rb : Value} {ar : Option Addr} {cr : Nat} {af : Option Addr} {cf : Nat} {ap : Option Addr} {cp : Nat} {ps : List (Int × Int)} {pl pc ql qc : Int} {fs : List Bs} {X : Out} {l buf : Bs} {b o cap N1 : Nat} {R : Bs} {ix : List Nat} {f : Nat → Value} {J R2 R3 : Act → World → Prop}
set_option maxRecDepth 1000000 in
set_option maxHeartbeats 8000000 in
theorem rC3 (h0 : f 0 = .pointer (some ⟨cB, 0, none⟩)) (h1 : f 1 = .slice none 0 0) (h6 : f 6 = .slice (some ⟨b, o, none⟩) N1 cap) (h7 : f 7 = .nilIface) (h8 : f 8 = .nilIface) (h9 : f 9 = .int .i64 1) (h10 : f 10 = .int .i64 st) (h11 : f 11 = .pointer (some ⟨pB, 0, none⟩)) (h17 : f 17 = .pointer (some ⟨qB, 0, none⟩))
    (hW : Wk w0 T0 w T A cB ae N st pB U n off rb ar cr af cf ap cp R ix ps pl pc) (hR : R = fs.flatten ++ buf) (hix : ix = cumF 0 fs) (ph : ∀ p, ps.head? = some p → p.1 = (st : Int)) (hlen : ps.length = fs.length) (htot : R.length + fs.length + l.length + U.length ≤ 2000000) (hqp : qB ≠ pB) (hq : Ps w T qB ql qc) (hql : ps = [] → ql = st) (hlv : Lv w T (.slice (some ⟨b, o, none⟩) N1 cap) l) (hqd : Qd X l U buf fs n) (hg : G0 w0 T0 ae ab aq abq) {a l2 : Bs} (hl : l = a ++ 34 :: l2) (h34 : 34 ∉ a) (hl2 : l2 = [10] ∨ l2 = [])
    (hR2 : ∀ a' w', ID w0 T0 A cB ae aq abq N st pB X a' w' → R2 a' w') : Code.wp Tryz.prog (bd4 Tryz.f55.body) (Exit.then J (QY R3 R2)) (Fr f) w := by
  have Hl2 := hide hl2
  clear hl2
  have hla : l.length = a.length + 1 + l2.length := by rw [hl]; simp; omega
  obtain ⟨hN1, hcp1, hcp2, -⟩ := hlv.facts
  have HI := hide (idx_lv (c := 34) hlv)
  rw [hl, ib_at l2 h34] at HI
  have htk : l.take a.length = a := by rw [hl]; exact List.take_left
  have hdr : l.drop (a.length + 1) = l2 := by
    rw [hl, List.drop_append, List.drop_of_length_le (by omega)]
    simp
  have HW := hide hW
  have Hlv := hide hlv
  have Hq := hide hq
  have Hqd := hide hqd
  have Hg := hide hg
  have Hqp := hide hqp
  have HR := hide hR
  have Hix := hide hix
  have Hph := hide ph
  have Hql := hide hql
  have Hl := hide hl
  have H34 := hide h34
  have Htk := hide htk
  have Hdr := hide hdr
  have Htot := hide htot
  have Hlen := hide hlen
  have Hla := hide hla
  have HN1 := hide hN1
  clear hW hlv hq hqd hg hqp hR hix ph hql hl h34 htk hdr htot hlen hla hN1
  conv => arg 2; whnf
  unfold Fr
  rw [h0, h1, h6, h7, h8, h9, h10, h11, h17]
  clear h0 h1 h6 h7 h8 h9 h10 h11 h17
  go_upto_region 49 with ((go_at_call 74; refine HI.out.mono ?_; rintro e w2 ⟨rfl, hw2⟩; obtain rfl := hw2))
  refine use_seg (frame_of _ rfl rfl) (seg49 (k := a.length) rfl rfl rfl HW.out Hlv.out (by have := Hla.out; omega) (by have := Htot.out; have := Hla.out; omega) ?_)
  intro f1 wx1 T1 ar1 cr1 hs1 hs18 W1k k1 q1
  rw [Htk.out] at W1k
  have L1 := Hlv.out.kept k1 (fun k e => by omega) q1
  have Q1 := Hq.out.kept k1 (fun k e => by omega) q1
  obtain ⟨b2, o2, cap2, hsl, hb1, hb2, hlv2⟩ := L1.drop (k := a.length + 1) (by have := Hla.out; omega) ((a.length : Int) + 1) (by push_cast; rfl) l2.length (by have := Hla.out; omega)
  rw [Hdr.out] at hlv2
  have e0 : f1 0 = .pointer (some ⟨cB, 0, none⟩) := hs1.s0
  have e1 : f1 1 = .slice none 0 0 := hs1.s1
  have e6 : f1 6 = .slice (some ⟨b, o, none⟩) N1 cap := hs1.s6
  have e7 : f1 7 = .nilIface := hs1.s7
  have e8 : f1 8 = .nilIface := hs1.s8
  have e9 : f1 9 = .int .i64 1 := hs1.s9
  have e10 : f1 10 = .int .i64 st := hs1.s10
  have e11 : f1 11 = .pointer (some ⟨pB, 0, none⟩) := hs1.s11
  have e17 : f1 17 = .pointer (some ⟨qB, 0, none⟩) := hs1.s17
  have e18 : f1 18 = .int .i64 a.length := hs18
  have p1 : wx1.cell? ⟨pB, 1, none⟩ = some (.int .i64 pc) := W1k.pos.blk.cell rfl
  have pf := W1k.pos.blk.free 1
  have hb1' : (l2.length : Int) ≤ cap2 := by omega
  have hb2' : (cap2 : Int) ≤ 9223372036854775807 := by omega
  have haL : (a.length : Int) ≤ 2000000 := by have := Htot.out; have := Hla.out; omega
  have hl2L : (l2.length : Int) ≤ 2000000 := by have := Htot.out; have := Hla.out; omega
  have HNR : Hid (∀ x : Int, ∀ W : World, W.heap = (wx1.setCell ⟨pB, 1, none⟩ (.int .i64 x)).heap → W.os = wx1.os → W.tape = wx1.tape → W.output = wx1.output → Calls Tryz.prog 67 #[.slice (some ⟨b2, o2, none⟩) l2.length cap2] W fun e w' => e = .returned (.int .i32 (nr l2)) ∧ (∃ pc', Wk w0 T0 w' T1 A cB ae N st pB U n off rb ar1 cr1 af cf ap cp (R ++ a) ix ps pl pc') ∧ Ps w' T1 qB ql qc ∧ Lv w' T1 (.slice (some ⟨b2, o2, none⟩) l2.length cap2) l2) := by
    intro x W g1 g2 g3 g4
    obtain ⟨W2k, k2⟩ := W1k.col x W g1 g2 g3 g4
    have L2 := hlv2.out.kept k2 (fun k e => by rw [e, W1k.pos.tag]; decide) (fun _ _ => rfl)
    refine (nr_lv L2 (Hg.out.at_ W2k.jx).tabs).mono ?_
    rintro e w' ⟨rfl, hbel⟩
    have k3 : Kp (fun _ => False) W w' := Kp.of_below hbel _
    exact ⟨rfl, ⟨x, W2k.quiet k3⟩, (Q1.other k2 Hqp.out).kept k3 (fun _ e => e.elim) (fun _ _ => rfl), L2.kept k3 (fun _ e => e.elim) (fun _ _ => rfl)⟩
  have HW1 := hide W1k
  have HL1 := hide L1
  have HQ1 := hide Q1
  clear hs1 hs18 HI W1k L1 Q1 k1 q1
  go_step
  unfold Fr
  rw [e0, e1, e6, e7, e8, e9, e10, e11, e17, e18]
  clear e0 e1 e6 e7 e8 e9 e10 e11 e17 e18
  go_upto_block 6 with ((go_at_call 67; refine (HNR.out _ _ (by exact rfl) (by exact rfl) (by exact rfl) (by exact rfl)).mono ?_; rintro e w3 ⟨rfl, ⟨pc3, hw3⟩, hq3, hl3⟩; have HW3 := hide hw3; have HQ3 := hide hq3; have HL3 := hide hl3; clear hw3 hq3 hl3))
  clear HNR p1 pf hsl
  have hnr34 : ((nr l2 : Int) == 34) = false := by
    rw [beq_eq_false_iff_ne]
    intro e
    have := (nr_eq (l := l2) (d := 34) (by decide)).1 e
    rcases Hl2.out with h | h <;> rw [h] at this <;> cases this
  have hnr44 : ((nr l2 : Int) == 44) = false := by
    rw [beq_eq_false_iff_ne]
    intro e
    have := (nr_eq (l := l2) (d := 44) (by decide)).1 e
    rcases Hl2.out with h | h <;> rw [h] at this <;> cases this
  have hlnl : lnl l2 = l2.length := by rcases Hl2.out with h | h <;> rw [h] <;> rfl
  have HN := hide (lnl_lv HL3.out (by omega))
  rw [hlnl] at HN
  have hla := Hla.out
  have htot := Htot.out
  have c0 : w3.cell? ⟨cB, 0, none⟩ = some (.int .i32 44) := HW3.out.cell rfl
  have HLa := hide hla
  clear hla htot hlnl
  go_upto_region 64 with ((go_at_call 68; refine HN.out.mono ?_; rintro e w4 ⟨rfl, hw4⟩; obtain rfl := hw4))
  have hla := HLa.out
  have htot := Htot.out
  have hlen := Hlen.out
  refine use_seg (frame_of _ rfl rfl) (seg64 rfl HW3.out (by rw [Hix.out, cumF_length]; omega) ?_)
  intro f6 wx6 T6 af6 cf6 hs6 W6k k6 q6
  have Q6 := HQ3.out.kept k6 (fun k e => by omega) q6
  go_step
  go_step
  refine use_seg rfl (seg65 hs6.s0 hs6.s17 Q6 W6k (by omega) ?_)
  intro f7 wx7 T7 ap7 cp7 hs7 W7k k7 q7
  have e0 : f7 0 = .pointer (some ⟨cB, 0, none⟩) := hs7.s0.trans hs6.s0
  have e1 : f7 1 = .slice none 0 0 := hs7.s1.trans hs6.s1
  have e7 : f7 7 = .nilIface := hs7.s7.trans hs6.s7
  have e8 : f7 8 = .nilIface := hs7.s8.trans hs6.s8
  have e9 : f7 9 = .int .i64 1 := hs7.s9.trans hs6.s9
  have e10 : f7 10 = .int .i64 st := hs7.s10.trans hs6.s10
  have e11 : f7 11 = .pointer (some ⟨pB, 0, none⟩) := hs7.s11.trans hs6.s11
  have HW7 := hide W7k
  clear hs6 hs7 W6k W7k k6 q6 k7 q7 Q6 c0
  go_step
  unfold Fr
  rw [e0, e1, e7, e8, e9, e10, e11]
  clear e0 e1 e7 e8 e9 e10 e11
  go_wp2
  show R2 _ _
  refine hR2 _ _ ⟨⟨rfl, rfl, rfl, rfl, rfl, rfl, rfl⟩, HW7.out.fin (fs := fs ++ [buf ++ a]) ?_ ?_ (ph_snoc Hql.out Hph.out) (by rw [List.length_append, List.length_append, hlen]; rfl) ?_ ?_ (by simp) _ _ rfl rfl⟩
  · rw [HR.out]; simp
  · rw [Hix.out, cumF_snoc, HR.out]; simp
  · rw [List.length_append, List.length_append]; simp; omega
  · have h5 := Hqd.out
    rw [Hl.out] at h5
    exact h5.last H34.out Hl2.out
end
end Go.Proofs.Qxb6615582aGreatFmt
