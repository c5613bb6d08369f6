import Derived.Test.Qxb6615582aGreatFmtSg39
import Derived.Test.Qxb6615582aGreatFmtSg40
import Derived.Test.Qxb6615582aGreatFmtLvc
import Derived.Deep.RegionLaw
namespace Go.Proofs.Qxb6615582aGreatFmt
open Go.RowKit
attribute [local go_sem] Go.wp_at_zero Go.wp_at_succ

section
variable {w0 : World} {T0 : Nat → Nat} {w : World} {T : Nat → Nat} {A : RA} {cB : Nat} {ae : Addr} {N st pB : Nat} {U : Bs} {n : Nat} {off : Int} {rb : Value} {ar : Option Addr} {cr : Nat} {af : Option Addr} {cf : Nat} {ap : Option Addr} {cp : Nat} {ps : List (Int × Int)} {pl pc : Int} {fs : List Bs} {X : Out} {l : Bs} {b o cap N1 : Nat} {R : Bs} {ix : List Nat}
set_option maxRecDepth 1000000 in
set_option maxHeartbeats 8000000 in
theorem rA1n {f : Nat → Value} {J R2 : Act → World → Prop} (h0 : f 0 = .pointer (some ⟨cB, 0, none⟩)) (h1 : f 1 = .slice none 0 0) (h6 : f 6 = .slice (some ⟨b, o, none⟩) N1 cap) (h7 : f 7 = .nilIface) (h8 : f 8 = .nilIface) (h9 : f 9 = .int .i64 1) (h10 : f 10 = .int .i64 st) (h11 : f 11 = .pointer (some ⟨pB, 0, none⟩))
    (hz : Pz w0 T0 w T A cB ae N st pB U n fs.flatten fs ps pl pc l) (hR : R = fs.flatten) (hix : ix = cumF 0 fs) (hW : Wk w0 T0 w T A cB ae N st pB U n off rb ar cr af cf ap cp R ix ps pl pc) (hlv : Lv w T (.slice (some ⟨b, o, none⟩) N1 cap) l) (hN1 : N1 = l.length) (hfd : Fd X l U fs n) {a l2 : Bs} (hl : l = a ++ 44 :: l2) (h44 : 44 ∉ a) (h34 : 34 ∉ a)
    (hJ : ∀ a' w', IF w0 T0 A cB ae N st pB X (l2.length + U.length) a' w' → J a' w') : Code.wp Tryz.prog (bd2 Tryz.f55.body) (Exit.then J (QX R2)) (Fr f) w := by
  have hla : l.length = a.length + 1 + l2.length := by rw [hl]; simp; omega
  obtain ⟨c, hc34, hcell⟩ : ∃ c : UInt8, ((c.toNat : Int) == 34) = false ∧ w.cell? ⟨b, o, none⟩ = some (.int .u8 c.toNat) := by
    obtain ⟨b', o', cap', e1, _, _, _, _, hcs⟩ := hlv.ex
    cases e1
    refine ⟨l[0]'(by omega), ?_, hcs 0 (by omega)⟩
    rw [beq_eq_false_iff_ne]
    intro e
    have h5 : l[0]'(by omega) = 34 := UInt8.toNat_inj.1 (by have : (34 : UInt8).toNat = 34 := rfl; omega)
    cases a with
    | nil => simp [hl] at h5
    | cons c r => simp [hl] at h5; exact h34 (by simp [h5])
  have hN1' : (0 : Int) < N1 := by omega
  have hcp1 : (N1 : Int) ≤ cap := by obtain ⟨_, _, _, e1, h5, _⟩ := hlv.ex; cases e1; omega
  have hcp2 : (cap : Int) ≤ 9223372036854775807 := by obtain ⟨_, _, _, e1, _, h5, _⟩ := hlv.ex; cases e1; omega
  have haN : (a.length : Int) < N1 := by omega
  have hbig : (N1 : Int) ≤ 3000000 := by have := hz.tot; omega
  have HI := hide (idr_lv hlv)
  rw [hl, ib_at l2 h44] at HI
  have htk : l.take a.length = a := by rw [hl]; exact List.take_left
  have hlva : Lv w T (.slice (some ⟨b, o, none⟩) a.length cap) a := by
    have := hlv.take (k := a.length) (by omega)
    rw [htk] at this
    exact this
  have HQ := hide (idx_lv (c := 34) hlva)
  rw [ib_no h34] at HQ
  have HA := hide (fun (W : World) e1 e2 e3 e4 => Rr.app_line hW.rr hlva W e1 e2 e3 e4 (by have := hz.tot; rw [← hR] at this; omega))
  obtain ⟨b2, o2, cap2, hsl, -, -, hlv2⟩ := hlv.drop (k := a.length + 1) (by omega) ((a.length : Int) + 1) (by push_cast; rfl) l2.length (by omega)
  have c0 : w.cell? ⟨cB, 0, none⟩ = some (.int .i32 44) := hW.cell rfl
  have c3 : w.cell? ⟨cB, 3, none⟩ = some (.bool false) := hW.cell rfl
  have c4 : w.cell? ⟨cB, 4, none⟩ = some (.bool false) := hW.cell rfl
  have c11 : w.cell? ⟨cB, 11, none⟩ = some (.slice ar R.length cr) := hW.cell rfl
  have hN0 : ((N1 : Int) == 0) = false := by rw [beq_eq_false_iff_ne]; omega
  obtain ⟨hn1, hn2⟩ := hW.ne
  have Hz := hide hz
  have HR := hide hR
  have Hix := hide hix
  have HW := hide hW
  have Hlv := hide hlv
  have Hlva := hide hlva
  have Hfd := hide hfd
  have Hl := hide hl
  have H44 := hide h44
  have H34 := hide h34
  have Hla := hide hla
  have Hsl := hide hsl
  clear hR hix hz hW hlv hlva hfd hl h44 h34 hla htk hN1 hsl
  conv => arg 2; whnf
  unfold Fr
  rw [h0, h1, h6, h7, h8, h9, h10, h11]
  clear h0 h1 h6 h7 h8 h9 h10 h11
  go_upto_region 39 with (first | (go_at_call 73; refine HI.out.mono ?_; rintro e w2 ⟨rfl, hw2⟩; obtain rfl := hw2) | (go_at_call 74; refine HQ.out.mono ?_; rintro e w2 ⟨rfl, hw2⟩; obtain rfl := hw2) | (at_builtin; refine wpList_app2 (by rfl) (.tmp 208) (.tmp 209) 22 (by rfl) (by rfl) (by rfl) (HA.out _ (by exact rfl) (by exact rfl) (by exact rfl) (by exact rfl)) ?_; rintro ao1 cap1 w3 ⟨d11, d12, d13, df, dk, hfin⟩; have Dk := hide dk; clear dk))
  obtain ⟨T1, r1, k1, q1⟩ := hfin.out _ rfl rfl rfl rfl
  have htot := Hz.out.tot
  have hlen := Hz.out.len
  rw [← HR.out] at htot
  have hla := Hla.out
  have W1k := HW.out.grow_rec (ar' := ao1) (cr' := cap1) (R' := R ++ a) (by rw [List.length_append]) r1 k1 q1 (by rw [List.length_append]; omega)
  have L1 := hlv2.out.kept k1 (fun k e => by omega) q1
  clear hfin d11 d12 d13 df Dk hcell c0 c3 c4 c11 HI HQ HA
  refine use_seg (frame_of _ rfl rfl) (seg39 rfl W1k (by rw [Hix.out, cumF_length]; omega) ?_)
  intro f1 wx1 T2 af1 cf1 hs1 W2k k2 q2
  go_step
  go_step
  refine use_seg rfl (seg40 hs1.s0 hs1.s11 W2k (by omega) ?_)
  intro f2 wx2 T3 ap1 cp1 hs2 W3k k3 q3
  have L2 := L1.kept k2 (fun k e => by omega) q2
  have L3 := L2.kept k3 (fun k e => by omega) q3
  have e0 : f2 0 = .pointer (some ⟨cB, 0, none⟩) := hs2.s0.trans hs1.s0
  have e1 : f2 1 = .slice none 0 0 := hs2.s1.trans hs1.s1
  have e6 : f2 6 = .slice (some ⟨b, o, none⟩) N1 cap := hs2.s6.trans hs1.s6
  have e7 : f2 7 = .nilIface := hs2.s7.trans hs1.s7
  have e8 : f2 8 = .nilIface := hs2.s8.trans hs1.s8
  have e9 : f2 9 = .int .i64 1 := hs2.s9.trans hs1.s9
  have e10 : f2 10 = .int .i64 st := hs2.s10.trans hs1.s10
  have e11 : f2 11 = .pointer (some ⟨pB, 0, none⟩) := hs2.s11.trans hs1.s11
  have e13 : f2 13 = .int .i64 a.length := hs2.s13.trans hs1.s13
  have p1 : wx2.cell? ⟨pB, 1, none⟩ = some (.int .i64 pc) := W3k.pos.blk.cell rfl
  have pf := W3k.pos.blk.free 1
  have HW3 := hide W3k
  have HL3 := hide L3
  have hsl := Hsl.out
  clear hs1 hs2 W1k W2k W3k L1 L2 L3 k1 q1 k2 q2 k3 q3 hlv2 r1
  go_step
  unfold Fr
  rw [e0, e1, e6, e7, e8, e9, e10, e11, e13]
  clear e0 e1 e6 e7 e8 e9 e10 e11 e13
  go_wp2
  obtain ⟨W4k, k4⟩ := HW3.out.col _ _ rfl rfl rfl rfl
  have L4 := HL3.out.kept k4 (fun k e => by rw [e, HW3.out.pos.tag]; decide) (fun _ _ => rfl)
  have hdr : l.drop (a.length + 1) = l2 := by
    rw [Hl.out, List.drop_append, List.drop_of_length_le (by omega)]
    simp
  rw [hdr] at L4
  refine ⟨⟨rfl, rfl, rfl, rfl, rfl, rfl, rfl⟩, rfl, rfl, T3, U, n, fs ++ [a], _, _, _, l2, ⟨⟨⟨_, _, _, _, _, by rw [Hix.out, HR.out] at W4k; exact (by have := W4k.rr; rw [show cumF 0 fs ++ [(fs.flatten ++ a).length] = cumF 0 (fs ++ [a]) by rw [cumF_snoc]; simp, show fs.flatten ++ a = (fs ++ [a]).flatten by simp] at this; exact this)⟩, W4k.jx, W4k.nb⟩, W4k.pos, ?_, ?_, ?_, ?_⟩, L4, ?_, rfl⟩
  · intro e; simp at e
  · intro p hp
    cases hps : ps with
    | nil =>
      rw [hps] at hp
      simp at hp
      rw [← hp]
      exact Hz.out.pl0 hps
    | cons q r =>
      rw [hps] at hp
      simp at hp
      rw [← hp]
      exact Hz.out.ph q (by rw [hps]; rfl)
  · simp [hlen]
  · have := Hz.out.tot
    simp at this ⊢
    omega
  · have h5 := Hfd.out
    rw [Hl.out] at h5
    exact h5.comma H44.out H34.out
end
end Go.Proofs.Qxb6615582aGreatFmt
