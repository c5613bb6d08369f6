import Derived.Test.Qxb6615582aGreatFmtSg39
import Derived.Test.Qxb6615582aGreatFmtSg40
import Derived.Test.Qxb6615582aGreatFmtLvc
namespace Go.Proofs.Qxb6615582aGreatFmt
open Go.RowKit
attribute [local go_sem] Go.wp_at_zero Go.wp_at_succ
section
variable {w0 : World} {T0 : Nat → Nat} {w : World} {T : Nat → Nat} {A : RA} {cB : Nat} {ae aq abq : Addr} {N st pB : Nat} {U : Bs} {n : Nat} {off : Int} {rb : Value} {ar : Option Addr} {cr : Nat} {af : Option Addr} {cf : Nat} {ap : Option Addr} {cp : Nat} {ps : List (Int × Int)} {pl pc : Int} {fs : List Bs} {X : Out} {l : Bs} {b o cap N1 : Nat} {R : Bs} {ix : List Nat} {f : Nat → Value} {J R2 : Act → World → Prop}
set_option maxRecDepth 1000000 in
set_option maxHeartbeats 8000000 in
theorem rA1q (h0 : f 0 = .pointer (some ⟨cB, 0, none⟩)) (h1 : f 1 = .slice none 0 0) (h6 : f 6 = .slice (some ⟨b, o, none⟩) N1 cap) (h7 : f 7 = .nilIface) (h8 : f 8 = .nilIface) (h9 : f 9 = .int .i64 1) (h10 : f 10 = .int .i64 st) (h11 : f 11 = .pointer (some ⟨pB, 0, none⟩))
    (hz : Pz w0 T0 w T A cB ae N st pB U n fs.flatten fs ps pl pc l) (hR : R = fs.flatten) (hix : ix = cumF 0 fs) (hW : Wk w0 T0 w T A cB ae N st pB U n off rb ar cr af cf ap cp R ix ps pl pc) (hlv : Lv w T (.slice (some ⟨b, o, none⟩) N1 cap) l) (hfd : Fd X l U fs n) {a l2 : Bs} (hl : l = a ++ 44 :: l2) (h44 : 44 ∉ a) {x y : Bs} (hxy : a = x ++ 34 :: y) (hx34 : 34 ∉ x) (hhd : l.head? ≠ some 34) (hg : w.cell? ⟨2, 0, none⟩ = some (.iface 95 (.pointer (some abq))))
    (hR2 : ∀ a' w', ID w0 T0 A cB ae aq abq N st pB X a' w' → R2 a' w') : Code.wp Tryz.prog (bd2 Tryz.f55.body) (Exit.then J (QX R2)) (Fr f) w := by
  obtain ⟨hN1, hcp1, hcp2, -⟩ := hlv.facts
  have hbig : (N1 : Int) ≤ 3000000 := by have := hz.tot; omega
  have HI := hide (idr_lv hlv)
  rw [hl, ib_at l2 h44] at HI
  have htk : l.take a.length = a := by rw [hl]; exact List.take_left
  have hal : a.length ≤ l.length := by rw [hl]; simp
  have hlne : l ≠ [] := by intro e; rw [e, hxy] at hal; simp at hal
  obtain ⟨c, hc34, hcell⟩ := hlv.head hlne hhd
  have hN1' : (0 : Int) < N1 := by cases l with | nil => exact absurd rfl hlne | cons c r => simp at hN1; omega
  have hN0 : ((N1 : Int) == 0) = false := by rw [beq_eq_false_iff_ne]; omega
  have haN : (a.length : Int) ≤ N1 := by omega
  have hlva : Lv w T (.slice (some ⟨b, o, none⟩) a.length cap) a := by
    have := hlv.take (k := a.length) hal
    rw [htk] at this
    exact this
  have HQ := hide (idx_lv (c := 34) hlva)
  have hib : Lib.indexByte a 34 = x.length := by rw [hxy]; exact ib_at y hx34
  rw [hib] at HQ
  have hah : a.head? ≠ some 34 := by
    intro e
    refine hhd ?_
    rw [hl]
    cases a with
    | nil => cases e
    | cons d r => exact e
  have c0 : w.cell? ⟨cB, 0, none⟩ = some (.int .i32 44) := hW.cell rfl
  have c3 : w.cell? ⟨cB, 3, none⟩ = some (.bool false) := hW.cell rfl
  have c4 : w.cell? ⟨cB, 4, none⟩ = some (.bool false) := hW.cell rfl
  have c11 : w.cell? ⟨cB, 11, none⟩ = some (.slice ar R.length cr) := hW.cell rfl
  obtain ⟨hn1, hn2⟩ := hW.ne
  have c8 : w.cell? ⟨cB, 8, none⟩ = some (.int .i64 n) := hW.cell rfl
  have p1 : w.cell? ⟨pB, 1, none⟩ = some (.int .i64 pc) := hW.pos.blk.cell rfl
  have n8 := World.new_ne w _ c8
  have ng := World.new_ne w _ hg
  have Hz := hide hz
  have HR := hide hR
  have Hix := hide hix
  have HW := hide hW
  have Hlv := hide hlv
  have Hfd := hide hfd
  have Hl := hide hl
  have H44 := hide h44
  have Hxy := hide hxy
  have Hah := hide hah
  clear hR hix hz hW hlv hlva hfd htk hal hN1 hxy hib hah hhd hlne hl h44
  conv => arg 2; whnf
  unfold Fr
  rw [h0, h1, h6, h7, h8, h9, h10, h11]
  clear h0 h1 h6 h7 h8 h9 h10 h11
  go_upto_region 37 with (first | (go_at_call 73; refine HI.out.mono ?_; rintro e w2 ⟨rfl, hw2⟩; obtain rfl := hw2) | (go_at_call 74; refine HQ.out.mono ?_; rintro e w2 ⟨rfl, hw2⟩; obtain rfl := hw2))
  clear HI HQ
  go_region_held3 (fun w' => w'.cell? ⟨cB, 8, none⟩ = some (.int .i64 n) ∧ w'.cell? ⟨2, 0, none⟩ = some (.iface 95 (.pointer (some abq)))) (go_keep) (fail)
  all_goals
    go_wp2
    show R2 _ _
    exact hR2 _ _ ⟨⟨rfl, rfl, rfl, rfl, rfl, rfl, rfl⟩, HW.out.err (z := []) (by rw [HR.out, List.append_nil]) Hix.out Hz.out.ph Hz.out.len (by have := Hz.out.tot; rw [← HR.out] at this; omega) _ _ abq (.inr ⟨rfl, (by have h5 := Hfd.out; rw [Hl.out] at h5; exact h5.bare H44.out (by rw [Hxy.out]; simp) Hah.out)⟩) _ _ _ rfl rfl rfl rfl rfl rfl⟩
set_option maxRecDepth 1000000 in
set_option maxHeartbeats 8000000 in
theorem rA2q (h0 : f 0 = .pointer (some ⟨cB, 0, none⟩)) (h1 : f 1 = .slice none 0 0) (h6 : f 6 = .slice (some ⟨b, o, none⟩) N1 cap) (h7 : f 7 = .nilIface) (h8 : f 8 = .nilIface) (h9 : f 9 = .int .i64 1) (h10 : f 10 = .int .i64 st) (h11 : f 11 = .pointer (some ⟨pB, 0, none⟩))
    (hz : Pz w0 T0 w T A cB ae N st pB U n fs.flatten fs ps pl pc l) (hR : R = fs.flatten) (hix : ix = cumF 0 fs) (hW : Wk w0 T0 w T A cB ae N st pB U n off rb ar cr af cf ap cp R ix ps pl pc) (hlv : Lv w T (.slice (some ⟨b, o, none⟩) N1 cap) l) (hfd : Fd X l U fs n) {a z : Bs} (hl : l = a ++ z) (hzl : lnl l = z.length) (hzz : z = [10] ∨ (z = [] ∧ 10 ∉ a)) (h44 : 44 ∉ l) {x y : Bs} (hxy : a = x ++ 34 :: y) (hx34 : 34 ∉ x) (hhd : l.head? ≠ some 34) (hg : w.cell? ⟨2, 0, none⟩ = some (.iface 95 (.pointer (some abq))))
    (hR2 : ∀ a' w', ID w0 T0 A cB ae aq abq N st pB X a' w' → R2 a' w') : Code.wp Tryz.prog (bd2 Tryz.f55.body) (Exit.then J (QX R2)) (Fr f) w := by
  obtain ⟨hN1, hcp1, hcp2, -⟩ := hlv.facts
  have hbig : (N1 : Int) ≤ 3000000 := by have := hz.tot; omega
  have HI := hide (idr_lv hlv)
  rw [ib_no h44] at HI
  have htk : l.take a.length = a := by rw [hl]; exact List.take_left
  have hal : a.length ≤ l.length := by rw [hl]; simp
  have HN := hide (lnl_lv hlv (by omega))
  rw [hzl] at HN
  obtain ⟨m, hm⟩ : ∃ m, m = z.length := ⟨_, rfl⟩
  rw [← hm] at HN
  obtain rfl : N1 = a.length + m := by
    have h5 := congrArg List.length hl
    rw [List.length_append] at h5
    omega
  have hm4 : (m : Int) ≤ 3000000 := by omega
  have hcp1' : (a.length : Int) + m ≤ cap := by omega
  have hbig' : (a.length : Int) + m ≤ 3000000 := by omega
  clear hcp1 hbig
  have hlne : l ≠ [] := by intro e; rw [e, hxy] at hal; simp at hal
  obtain ⟨c, hc34, hcell⟩ := hlv.head hlne hhd
  have hN1' : (0 : Int) < (a.length : Int) + m := by cases l with | nil => exact absurd rfl hlne | cons c r => simp at hN1; omega
  have hN0 : (((a.length : Int) + m) == 0) = false := by rw [beq_eq_false_iff_ne]; omega
  have haN : (a.length : Int) ≤ ((a.length : Int) + m) := by omega
  have hlva : Lv w T (.slice (some ⟨b, o, none⟩) a.length cap) a := by
    have := hlv.take (k := a.length) hal
    rw [htk] at this
    exact this
  have HQ := hide (idx_lv (c := 34) hlva)
  have hib : Lib.indexByte a 34 = x.length := by rw [hxy]; exact ib_at y hx34
  rw [hib] at HQ
  have hah : a.head? ≠ some 34 := by
    intro e
    refine hhd ?_
    rw [hl]
    cases a with
    | nil => cases e
    | cons d r => exact e
  have c0 : w.cell? ⟨cB, 0, none⟩ = some (.int .i32 44) := hW.cell rfl
  have c3 : w.cell? ⟨cB, 3, none⟩ = some (.bool false) := hW.cell rfl
  have c4 : w.cell? ⟨cB, 4, none⟩ = some (.bool false) := hW.cell rfl
  have c11 : w.cell? ⟨cB, 11, none⟩ = some (.slice ar R.length cr) := hW.cell rfl
  obtain ⟨hn1, hn2⟩ := hW.ne
  have c8 : w.cell? ⟨cB, 8, none⟩ = some (.int .i64 n) := hW.cell rfl
  have p1 : w.cell? ⟨pB, 1, none⟩ = some (.int .i64 pc) := hW.pos.blk.cell rfl
  have n8 := World.new_ne w _ c8
  have ng := World.new_ne w _ hg
  have Hz := hide hz
  have HR := hide hR
  have Hix := hide hix
  have HW := hide hW
  have Hlv := hide hlv
  have Hfd := hide hfd
  have Hl := hide hl
  have Hzl := hide hzl
  have Hzz := hide hzz
  have H44 := hide h44
  have Hxy := hide hxy
  have Hah := hide hah
  clear hR hix hz hW hlv hlva hfd htk hal hN1 hxy hib hah hhd hlne hl hzl hzz h44 hm
  conv => arg 2; whnf
  unfold Fr
  rw [h0, h1, h6, h7, h8, h9, h10, h11]
  clear h0 h1 h6 h7 h8 h9 h10 h11
  go_upto_region 37 with (first | (go_at_call 73; refine HI.out.mono ?_; rintro e w2 ⟨rfl, hw2⟩; obtain rfl := hw2) | (go_at_call 68; refine HN.out.mono ?_; rintro e w2 ⟨rfl, hw2⟩; obtain rfl := hw2) | (go_at_call 74; refine HQ.out.mono ?_; rintro e w2 ⟨rfl, hw2⟩; obtain rfl := hw2))
  clear HI HQ
  go_region_held3 (fun w' => w'.cell? ⟨cB, 8, none⟩ = some (.int .i64 n) ∧ w'.cell? ⟨2, 0, none⟩ = some (.iface 95 (.pointer (some abq)))) (go_keep) (fail)
  all_goals
    go_wp2
    show R2 _ _
    exact hR2 _ _ ⟨⟨rfl, rfl, rfl, rfl, rfl, rfl, rfl⟩, HW.out.err (z := []) (by rw [HR.out, List.append_nil]) Hix.out Hz.out.ph Hz.out.len (by have := Hz.out.tot; rw [← HR.out] at this; omega) _ _ abq (.inr ⟨rfl, (by have h5 := Hfd.out; rw [Hl.out] at h5; exact h5.bareLast Hzz.out (fun e => H44.out (by rw [Hl.out]; exact List.mem_append_left _ e)) (by rw [Hxy.out]; simp) Hah.out)⟩) _ _ _ rfl rfl rfl rfl rfl rfl⟩
end
end Go.Proofs.Qxb6615582aGreatFmt
