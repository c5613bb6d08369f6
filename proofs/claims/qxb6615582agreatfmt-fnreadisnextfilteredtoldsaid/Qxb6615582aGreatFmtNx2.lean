import Derived.Test.Qxb6615582aGreatFmtAs
import Derived.Deep.RegionHeld3
import Derived.Deep.DeepCutAuto
namespace Go.Proofs.Qxb6615582aGreatFmt
open Go.RowKit
attribute [local go_sem] Go.wp_at_zero Go.wp_at_succ

theorem Rx.quiet {w0 w w' : World} {T0 T : Nat → Nat} {A : RA} {cB : Nat} {ae : Addr} {N : Nat} {U : Bs} {n : Nat} {R : Bs} {ix : List Nat} {ps : List (Int × Int)} (h : Rx w0 T0 w T A cB ae N U n R ix ps) (hk : Kp (fun _ => False) w w') : Rx w0 T0 w' T A cB ae N U n R ix ps := by
  obtain ⟨off, rb, rec, fi, fp, h1⟩ := h.rr
  exact ⟨⟨off, rb, rec, fi, fp, h1.kept hk (fun _ e => e.elim)⟩, h.jx.step hk (fun _ e => e.elim) (fun _ _ => rfl), h.nb⟩
theorem Rx.new {w0 w : World} {T0 T : Nat → Nat} {A : RA} {cB : Nat} {ae : Addr} {N : Nat} {U : Bs} {n : Nat} {R : Bs} {ix : List Nat} {ps : List (Int × Int)} (h : Rx w0 T0 w T A cB ae N U n R ix ps) {k : Nat} (hk : w.heap.size ≤ k) : T k = 0 := by
  obtain ⟨off, rb, rec, fi, fp, h1⟩ := h.rr
  rcases Nat.eq_zero_or_pos (T k) with e | e
  · exact e
  · have := h1.rl.lt k (by omega); omega

/-- What next hands out. -/
def NXPost (w0 : World) (T0 : Nat → Nat) (A : RA) (cB : Nat) (ae aq abq : Addr) (N : Nat) (cols : Value) (X : Out × Nat) (e : Ending) (w' : World) : Prop :=
  ∃ v ve T U n R ix ps, e = .returned (.tuple #[v, ve]) ∧ Rx w0 T0 w' T A cB ae (N + 2) U n R ix ps ∧ St X.1.rest X.1.ln U n ∧
    ((X.1.oc = 1 ∧ ve = ev ae ∧ v = .pointer none) ∨
     (X.1.oc = 0 ∧ ve = .nilIface ∧ ∃ lB fv, v = .pointer (some ⟨lB, 0, none⟩) ∧ Blk w' lB 42 #[.int .i64 X.2, fv, cols] ∧ T lB = 0 ∧ Strs w' T fv X.1.fs ∧ w0.heap.size ≤ lB ∧ Nwv w0 fv) ∨
     (v = .pointer none ∧ ∃ fe a, ve = .iface 76 (.pointer (some ⟨fe, 0, none⟩)) ∧ Blk w' fe 79 #[.int .i64 X.2, .string .empty, ev a] ∧ T fe = 0 ∧ ((a = aq ∧ X.1.oc = 2) ∨ (a = abq ∧ X.1.oc = 3))))

theorem eql_83_95 (w : World) (a b : Addr) : Sem.run Tryz.prog (binOp .eql 52 (.iface 83 (.pointer (some a))) (.iface 95 (.pointer (some b)))) w = .ok (.bool false) w := by
  have h : ∀ d : Nat, (Op.equalIn (d + 2) 52 (.iface 83 (.pointer (some a))) (.iface 95 (.pointer (some b)))).run Tryz.prog w = .ok false w := fun d => by
    simp [Op.equalIn, run_underlying Tryz.underlying52]
  simp only [binOp]
  simp [Op.equal, Op.maxDepth, h 9998]
section
variable {w0 w1 wx : World} {T0 T1 : Nat → Nat} {A : RA} {cB : Nat} {ae aq abq : Addr} {N : Nat} {U1 : Bs} {n1 : Nat} {R1 : Bs} {ix1 : List Nat} {ps1 : List (Int × Int)} {X : Out × Nat} {cols fv : Value}
theorem Strs.kept {w w' : World} {T : Nat → Nat} {v : Value} {fs : List Bs} (h : Strs w T v fs) (hk : Kp (fun _ => False) w w') : Strs w' T v fs := by
  obtain ⟨b, cap, h1, h2, h3, h4, h5⟩ := h.ex
  exact ⟨b, cap, h1, h2, h3, Nat.lt_of_lt_of_le h4 hk.size, fun k hk2 => by rw [hk.cell (p := ⟨b, k, none⟩) h4 (fun e => e)]; exact h5 k hk2⟩
theorem nx_ok (h : Rx w0 T0 w1 T1 A cB ae (N + 2) U1 n1 R1 ix1 ps1) (hst : St X.1.rest X.1.ln U1 n1) (h1 : X.1.oc = 0) (hs : Strs w1 T1 fv X.1.fs) (hnv : Nwv w0 fv) (p1 : Int) (hp : p1 = (X.2 : Int)) (o1 : Obj)
    (e1 : wx.heap = ((w1.alloc o1).alloc (.cells #[.int .i64 p1, fv, cols] 42)).heap) (e2 : wx.os = w1.os) (e3 : wx.tape = w1.tape) (e4 : wx.output = w1.output) :
    NXPost w0 T0 A cB ae aq abq N cols X (.returned (.tuple #[.pointer (some ⟨w1.heap.size + 1, 0, none⟩), .nilIface])) wx := by
  have hk : Kp (fun _ => False) w1 wx := Kp.heap (((Kp.refl (fun _ => False) w1).alloc o1).alloc _) e1 e2 e3 e4
  have hb := (Blk.new (w1.alloc o1) 42 #[.int .i64 p1, fv, cols]).heap e1
  rw [show (w1.alloc o1).heap.size = w1.heap.size + 1 by simp] at hb
  subst hp
  exact ⟨_, _, T1, U1, n1, R1, ix1, ps1, rfl, h.quiet hk, hst, .inr (.inl ⟨h1, rfl, _, fv, rfl, hb, h.new (by omega), hs.kept hk, Nat.le_trans h.jx.kp.size (Nat.le_succ _), hnv⟩)⟩
theorem nx_err {w2 : World} {ad : Addr} (h : Rx w0 T0 w1 T1 A cB ae (N + 2) U1 n1 R1 ix1 ps1) (hst : St X.1.rest X.1.ln U1 n1) (hk2 : Kp (fun _ => False) w1 w2) (ha : (ad = aq ∧ X.1.oc = 2) ∨ (ad = abq ∧ X.1.oc = 3)) (wx : World)
    (e1 : wx.heap = (w2.alloc (.cells #[.int .i64 X.2, .string .empty, .iface 95 (.pointer (some ad))] 79)).heap) (e2 : wx.os = w2.os) (e3 : wx.tape = w2.tape) (e4 : wx.output = w2.output) :
    NXPost w0 T0 A cB ae aq abq N cols X (.returned (.tuple #[.pointer none, .iface 76 (.pointer (some ⟨w2.heap.size, 0, none⟩))])) wx := by
  have hk : Kp (fun _ => False) w1 wx := Kp.heap (hk2.alloc _) e1 e2 e3 e4
  have hb := (Blk.new w2 79 #[.int .i64 X.2, .string .empty, .iface 95 (.pointer (some ad))]).heap e1
  exact ⟨_, _, T1, U1, n1, R1, ix1, ps1, rfl, h.quiet hk, hst, .inr (.inr ⟨rfl, _, ad, rfl, hb, h.new hk2.size, ha⟩)⟩
end

set_option maxRecDepth 100000 in
set_option maxHeartbeats 4000000 in
theorem next_c {w : World} {T : Nat → Nat} {A : RA} {cB nB : Nat} {ae ab aq abq : Addr} {U : Bs} {n N : Nat} {R : Bs} {ix : List Nat} {ps : List (Int × Int)} {x : Bs} {ln : Nat} {co : Option Addr} {cm cc' : Nat} (h : Rx w T w T A cB ae N U n R ix ps) (hg : G0 w T ae ab aq abq) (h5 : w.cell? ⟨5, 0, none⟩ = some (.iface 143 (.agg #[.pointer (some ⟨14, 52, none⟩)]))) (t5 : T 5 = 0) (hst : St x ln U n) (hN : N ≤ 1099511626000)
    (hn : Blk w nB 68 #[.pointer (some ⟨cB, 0, none⟩), .slice co cm cc']) (tn : T nB = 0) :
    Calls Tryz.prog 32 #[.pointer (some ⟨nB, 0, none⟩)] w (NXPost w T A cB ae aq abq N (.slice co cm cc') (recd x ln)) := by
  have n0 : w.cell? ⟨nB, 0, none⟩ = some (.pointer (some ⟨cB, 0, none⟩)) := hn.cell rfl
  have HC := hide (csvRead_c h hg hst hN)
  obtain ⟨X, hX⟩ : ∃ X, recd x ln = X := ⟨_, rfl⟩
  rw [hX] at HC ⊢
  have Hg := hide hg
  have H5 := hide h5
  have Ht5 := hide t5
  have Hn := hide hn
  have Htn := hide tn
  clear h hg h5 t5 hst hn tn hX
  go_enter Tryz.func32, Tryz.ntmps32
  go_upto_region 2 with ((go_at_call 44; refine HC.out.mono ?_; rintro e w1 hp; obtain ⟨v, ve, T1, U1, n1, R1, ix1, ps1, rfl, hrx, hst1, hcase⟩ := hp; have Hrx := hide hrx; have Hst1 := hide hst1; have Hcase := hide hcase; clear hrx hst1 hcase))
  have G1 := Hg.out.at_ Hrx.out.jx
  have g0 : w1.cell? ⟨0, 0, none⟩ = some (.iface 95 (.pointer (some ae))) := G1.e0.er.cell
  have hnk : Blk w1 nB 68 #[.pointer (some ⟨cB, 0, none⟩), .slice co cm cc'] := Hn.out.kept Hrx.out.jx.kp (by unfold Fa; have := Htn.out; omega)
  have g5 : w1.cell? ⟨5, 0, none⟩ = some (.iface 143 (.agg #[.pointer (some ⟨14, 52, none⟩)])) := by
    rw [Hrx.out.jx.kp.cell (p := ⟨5, 0, none⟩) (lt_of_cell H5.out) (fun (e : T 5 ≠ 0) => e Ht5.out)]; exact H5.out
  have HG1 := hide G1
  have Hnk := hide hnk
  have Hg5 := hide g5
  clear n0 HC G1 hnk g5
  rcases Hcase.out with ⟨k1, k2, k3⟩ | ⟨k1, k2, k3, k4⟩ | ⟨pe, ad, k2, k3, k4⟩
  · unfold ev at k2
    subst k2 k3
    have hq := Er.same (w := w1) ae
    go_wp2
    go_ret2
    exact ⟨_, _, T1, U1, n1, R1, ix1, ps1, rfl, Hrx.out, Hst1.out, .inl ⟨k1, rfl, rfl⟩⟩
  · subst k2
    obtain ⟨fb, fcap, hv, hfc, ht, hl, hcs⟩ := k3.ex
    subst hv
    obtain ⟨hnv, p, hp, hp1⟩ := k4
    have Hnv := hide hnv
    obtain ⟨off, rb, rec, fi, fp, hrr⟩ := Hrx.out.rr
    have hq := Er.nil (w := w1) ae
    have Hs := hide k3
    have Hp := hide hp
    have Hrr := hide hrr
    have Hk1 := hide k1
    have Hp1 := hide hp1
    have HF : Hid (∀ (o : Obj), Calls Tryz.prog 46 #[.pointer (some ⟨cB, 0, none⟩), .int .i64 0] (w1.alloc o) fun e w' => e = .returned (.tuple #[.int .i64 p.1, .int .i64 p.2]) ∧ ∃ k, w' = (w1.alloc o).drewN k) := fun o => fieldPos_c (hrr.kept ((Kp.refl (fun _ => False) w1).alloc o) (fun _ e => e.elim)) hp
    have m0 : ∀ o, (w1.alloc o).cell? ⟨nB, 0, none⟩ = some (.pointer (some ⟨cB, 0, none⟩)) := fun o => (Hnk.out.alloc o).cell rfl
    have m1 : ∀ o, (w1.alloc o).cell? ⟨nB, 1, none⟩ = some (.slice co cm cc') := fun o => (Hnk.out.alloc o).cell rfl
    clear k1 k3 hfc ht hl hcs hp hp1 hrr hnv
    go_wp2_with (first | (go_at_call 45; refine (as_nil _ _).mono ?_; rintro e w2 ⟨rfl, rfl⟩) | (go_at_call 46; refine (HF.out _).mono ?_; rintro e w3 ⟨rfl, kk, rfl⟩))
    go_ret2
    exact nx_ok Hrx.out Hst1.out Hk1.out Hs.out Hnv.out _ Hp1.out _ rfl rfl rfl rfl
  · subst k2
    obtain ⟨xx, yy, hb⟩ := k3.ex
    have hpe : pe < w1.heap.size := hb.lt
    have Hk3 := hide k3
    have Hk4 := hide k4
    have Hpe := hide hpe
    have hq : Sem.run Tryz.prog (binOp .eql 52 (.iface 83 (.pointer (some ⟨pe, 0, none⟩))) (.iface 95 (.pointer (some ae)))) w1 = .ok (.bool false) w1 := eql_83_95 w1 _ _
    have HA : Hid (Calls Tryz.prog 45 #[.iface 83 (.pointer (some ⟨pe, 0, none⟩)), .iface 85 (.pointer (some ⟨w1.heap.size, 0, none⟩))] (w1.alloc (.cells #[.pointer none] 83)) fun e w' => e = .returned (.bool true) ∧ Hid (Kp (fun _ => False) w1 w') ∧ w'.cell? ⟨w1.heap.size, 0, none⟩ = some (.pointer (some ⟨pe, 0, none⟩)) ∧ w'.cell? ⟨pe, 0, none⟩ = some (.int .i64 X.2) ∧ w'.cell? ⟨pe, 3, none⟩ = some (.iface 95 (.pointer (some ad)))) := by
      refine (as_hit ⟨pe, 0, none⟩ ⟨w1.heap.size, 0, none⟩ (.pointer none) (w1.alloc (.cells #[.pointer none] 83)) ?_ ?_ ?_).mono ?_
      · rw [World.cell?_alloc_lt _ _ ⟨5, 0, none⟩ (lt_of_cell Hg5.out)]; exact Hg5.out
      · exact (Blk.new w1 83 #[.pointer none]).cell rfl
      · exact (Blk.new w1 83 #[.pointer none]).free 0
      · rintro e w' ⟨rfl, rfl⟩
        have hk : Kp (fun _ => False) w1 (((((((w1.alloc (.cells #[.pointer none] 83)).alloc (.cells #[.pointer (some ⟨w1.heap.size, 0, none⟩)] 85)).alloc (.cells #[.pointer (some ⟨14, 85, none⟩), .pointer (some ⟨(w1.alloc (.cells #[.pointer none] 83)).heap.size, 0, none⟩), .int .u64 150] 116)).alloc (.cells #[.pointer (some ⟨14, 85, none⟩), .pointer (some ⟨(w1.alloc (.cells #[.pointer none] 83)).heap.size, 0, none⟩), .int .u64 150] 116)).alloc (.cells #[.pointer (some ⟨pe, 0, none⟩)] 83)).setCell ⟨w1.heap.size, 0, none⟩ (.pointer (some ⟨pe, 0, none⟩)))) := ((((((Kp.refl (fun _ => False) w1).alloc _).alloc _).alloc _).alloc _).alloc _).setCell (p := ⟨w1.heap.size, 0, none⟩) (.inr (Nat.le_refl _)) _
        have hb' := hb.kept hk (fun e => e)
        refine ⟨rfl, hk, ?_, hb'.cell rfl, hb'.cell rfl⟩
        have h1 := (((((Blk.new w1 83 #[.pointer none]).alloc (.cells #[.pointer (some ⟨w1.heap.size, 0, none⟩)] 85)).alloc (.cells #[.pointer (some ⟨14, 85, none⟩), .pointer (some ⟨(w1.alloc (.cells #[.pointer none] 83)).heap.size, 0, none⟩), .int .u64 150] 116)).alloc (.cells #[.pointer (some ⟨14, 85, none⟩), .pointer (some ⟨(w1.alloc (.cells #[.pointer none] 83)).heap.size, 0, none⟩), .int .u64 150] 116)).alloc (.cells #[.pointer (some ⟨pe, 0, none⟩)] 83)).store 0 (.pointer (some ⟨pe, 0, none⟩))
        exact h1.cell rfl
    clear hb k3 k4 hpe
    go_upto_region 6 with ((go_at_call 45; refine HA.out.mono ?_; rintro e w2 ⟨rfl, hk2, s1, s2, s3⟩))
    have t1 := World.new_ne w2 _ s1
    have t2 := World.new_ne w2 _ s2
    clear HA hq g0
    go_region_held3 (fun w' => w'.cell? ⟨w1.heap.size, 0, none⟩ = some (.pointer (some ⟨pe, 0, none⟩)) ∧ w'.cell? ⟨pe, 0, none⟩ = some (.int .i64 X.2) ∧ w'.cell? ⟨pe, 3, none⟩ = some (.iface 95 (.pointer (some ad)))) (go_keep) (fail)
    all_goals
      go_wp2
      go_ret2
      exact nx_err Hrx.out Hst1.out hk2.out Hk4.out _ rfl rfl rfl rfl
end Go.Proofs.Qxb6615582aGreatFmt
