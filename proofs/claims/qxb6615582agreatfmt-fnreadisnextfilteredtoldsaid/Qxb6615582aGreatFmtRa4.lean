import Derived.Test.Qxb6615582aGreatFmtSg39
import Derived.Test.Qxb6615582aGreatFmtSg40
import Derived.Test.Qxb6615582aGreatFmtLvc
namespace Go.Proofs.Qxb6615582aGreatFmt
open Go.RowKit
attribute [local go_sem] Go.wp_at_zero Go.wp_at_succ
section
variable {w0 : World} {T0 : Nat → Nat} {w : World} {T : Nat → Nat} {A : RA} {cB : Nat} {ae aq abq : Addr} {N st pB : Nat} {U : Bs} {n : Nat} {off : Int} {rb : Value} {ar : Option Addr} {cr : Nat} {af : Option Addr} {cf : Nat} {ap : Option Addr} {cp : Nat} {ps : List (Int × Int)} {pl pc : Int} {fs : List Bs} {X : Out} {l : Bs} {b o cap N1 : Nat} {R : Bs} {ix : List Nat} {f : Nat → Value} {J R2 : Act → World → Prop}
set_option maxRecDepth 1000000 in
set_option maxHeartbeats 8000000 in
theorem rA2e (h0 : f 0 = .pointer (some ⟨cB, 0, none⟩)) (h1 : f 1 = .slice none 0 0) (h6 : f 6 = .slice (some ⟨b, o, none⟩) N1 cap) (h7 : f 7 = .nilIface) (h8 : f 8 = .nilIface) (h9 : f 9 = .int .i64 1) (h10 : f 10 = .int .i64 st) (h11 : f 11 = .pointer (some ⟨pB, 0, none⟩))
    (hz : Pz w0 T0 w T A cB ae N st pB U n fs.flatten fs ps pl pc l) (hR : R = fs.flatten) (hix : ix = cumF 0 fs) (hW : Wk w0 T0 w T A cB ae N st pB U n off rb ar cr af cf ap cp R ix ps pl pc) (hlv : Lv w T (.slice (some ⟨b, o, none⟩) N1 cap) l) (hfd : Fd X l U fs n) (hle : l = [])
    (hR2 : ∀ a' w', ID w0 T0 A cB ae aq abq N st pB X a' w' → R2 a' w') : Code.wp Tryz.prog (bd2 Tryz.f55.body) (Exit.then J (QX R2)) (Fr f) w := by
  subst hle
  obtain ⟨hN1, hcp1, hcp2, -⟩ := hlv.facts
  obtain rfl : N1 = 0 := hN1
  have HI := hide (idr_lv hlv)
  rw [show Lib.indexByte [] 44 = -1 from rfl] at HI
  have HN := hide (lnl_lv hlv (by simp))
  rw [show ((lnl [] : Nat) : Int) = 0 from rfl] at HN
  have HQ := hide (idx_lv (c := 34) hlv)
  rw [show Lib.indexByte [] 34 = -1 from rfl] at HQ
  have HA := hide (fun (W : World) e1 e2 e3 e4 => Rr.app_line hW.rr hlv W e1 e2 e3 e4 (by have := hz.tot; rw [← hR] at this; simp at this ⊢; omega))
  have c0 : w.cell? ⟨cB, 0, none⟩ = some (.int .i32 44) := hW.cell rfl
  have c3 : w.cell? ⟨cB, 3, none⟩ = some (.bool false) := hW.cell rfl
  have c4 : w.cell? ⟨cB, 4, none⟩ = some (.bool false) := hW.cell rfl
  have c11 : w.cell? ⟨cB, 11, none⟩ = some (.slice ar R.length cr) := hW.cell rfl
  obtain ⟨hn1, hn2⟩ := hW.ne
  have Hz := hide hz
  have HR := hide hR
  have Hix := hide hix
  have HW := hide hW
  have Hlv := hide hlv
  have Hfd := hide hfd
  clear hR hix hz hW hlv hfd
  conv => arg 2; whnf
  unfold Fr
  rw [h0, h1, h6, h7, h8, h9, h10, h11]
  clear h0 h1 h6 h7 h8 h9 h10 h11
  go_upto_region 39 with (first | (go_at_call 73; refine HI.out.mono ?_; rintro e w2 ⟨rfl, hw2⟩; obtain rfl := hw2) | (go_at_call 68; refine HN.out.mono ?_; rintro e w2 ⟨rfl, hw2⟩; obtain rfl := hw2) | (go_at_call 74; refine HQ.out.mono ?_; rintro e w2 ⟨rfl, hw2⟩; obtain rfl := hw2) | (at_builtin; refine wpList_app2 (by rfl) (.tmp 208) (.tmp 209) 22 (by rfl) (by rfl) (by rfl) (HA.out _ (by exact rfl) (by exact rfl) (by exact rfl) (by exact rfl)) ?_; rintro ao1 cap1 w3 ⟨d11, d12, d13, df, dk, hfin⟩; have Dk := hide dk; clear dk))
  obtain ⟨T1, r1, k1, q1⟩ := hfin.out _ rfl rfl rfl rfl
  have htot := Hz.out.tot
  have hlen := Hz.out.len
  rw [← HR.out] at htot
  have W1k := HW.out.grow_rec (ar' := ao1) (cr' := cap1) (R' := R ++ []) (by rw [List.length_append]; rfl) r1 k1 q1 (by rw [List.length_append]; simp at htot ⊢; omega)
  refine use_seg (frame_of _ rfl rfl) (seg39 rfl W1k (by rw [Hix.out, cumF_length]; simp at htot; omega) ?_)
  intro f1 wx1 T2 af1 cf1 hs1 W2k k2 q2
  go_step
  go_step
  refine use_seg rfl (seg40 hs1.s0 hs1.s11 W2k (by simp at htot; omega) ?_)
  intro f2 wx2 T3 ap1 cp1 hs2 W3k k3 q3
  have e0 : f2 0 = .pointer (some ⟨cB, 0, none⟩) := hs2.s0.trans hs1.s0
  have e1 : f2 1 = .slice none 0 0 := hs2.s1.trans hs1.s1
  have e7 : f2 7 = .nilIface := hs2.s7.trans hs1.s7
  have e8 : f2 8 = .nilIface := hs2.s8.trans hs1.s8
  have e9 : f2 9 = .int .i64 1 := hs2.s9.trans hs1.s9
  have e10 : f2 10 = .int .i64 st := hs2.s10.trans hs1.s10
  have e11 : f2 11 = .pointer (some ⟨pB, 0, none⟩) := hs2.s11.trans hs1.s11
  have e13 : f2 13 = .int .i64 (-1) := hs2.s13.trans hs1.s13
  have HW3 := hide W3k
  clear hs1 hs2 W1k W2k W3k k1 q1 k2 q2 k3 q3 r1 hfin d11 d12 d13 df HI HQ HA HN
  go_step
  unfold Fr
  rw [e0, e1, e7, e8, e9, e10, e11, e13]
  clear e0 e1 e7 e8 e9 e10 e11 e13
  go_wp2
  show R2 _ _
  obtain ⟨g1, g2⟩ := cum_eq (a := []) HR.out Hix.out
  exact hR2 _ _ ⟨⟨rfl, rfl, rfl, rfl, rfl, rfl, rfl⟩, HW3.out.fin (fs := fs ++ [[]]) g2 g1 (ph_snoc Hz.out.pl0 Hz.out.ph) (by rw [List.length_append, List.length_append, hlen]; rfl) (by rw [List.length_append, List.length_append]; simp at htot ⊢; omega) (by have h5 := Hfd.out; exact Fd.last (a := []) (z := []) h5 (.inr ⟨rfl, by simp⟩) (by simp) (by simp)) (by simp) _ _ rfl rfl⟩
end
end Go.Proofs.Qxb6615582aGreatFmt
