import Derived.Test.Qxb6615582aGreatFmtLq
import Derived.Test.Qxb6615582aGreatFmtRa1
import Derived.Test.Qxb6615582aGreatFmtRa2
import Derived.Test.Qxb6615582aGreatFmtRa3
import Derived.Test.Qxb6615582aGreatFmtRa4
import Derived.Deep.CutBlock
namespace Go.Proofs.Qxb6615582aGreatFmt
open Go.RowKit
attribute [local go_sem] Go.wp_at_zero Go.wp_at_succ
section
variable {w0 : World} {T0 : Nat → Nat} {w : World} {T : Nat → Nat} {A : RA} {cB : Nat} {ae aq abq : Addr} {N st pB : Nat} {U : Bs} {n : Nat} {off : Int} {rb : Value} {ar : Option Addr} {cr : Nat} {af : Option Addr} {cf : Nat} {ap : Option Addr} {cp : Nat} {ps : List (Int × Int)} {pl pc : Int} {fs : List Bs} {X : Out} {l : Bs} {b o cap N1 : Nat} {R : Bs} {ix : List Nat} {f : Nat → Value} {J R2 : Act → World → Prop}
theorem Rr.retag (h : Rr w T A cB ae U n off rb (.slice ar R.length cr) (.slice af ix.length cf) (.slice ap ps.length cp) R ix ps) {T' : Nat → Nat} (ho : Old w T T') (hl : ∀ k, T' k ≠ 0 → k < w.heap.size) : Rr w T' A cB ae U n off rb (.slice ar R.length cr) (.slice af ix.length cf) (.slice ap ps.length cp) R ix ps := by
  have hlt := h.rl.lt
  refine ⟨⟨h.rl.blk, h.rl.bio, ?_, ?_, ?_, ?_, h.rl.own, ?_, hl, ?_⟩, h.orec, h.ofi, h.ofp, fun b e => by rw [ho b (own_lt h.orec e)]; exact h.trec b e, fun b e => by rw [ho b (own_lt h.ofi e)]; exact h.tfi b e, fun b e => by rw [ho b (own_lt h.ofp e)]; exact h.tfp b e⟩
  · rw [ho cB h.rl.blk.lt]; exact h.rl.tc
  · rw [ho _ (hlt _ (by rw [h.rl.tI]; decide))]; exact h.rl.tI
  · rw [ho _ (hlt _ (by rw [h.rl.tB]; decide))]; exact h.rl.tB
  · rw [ho _ (hlt _ (by rw [h.rl.tR]; decide))]; exact h.rl.tR
  · intro b e
    obtain ⟨k, xs, k1⟩ := h.rl.own
    rw [ho b (own_lt k1 e)]; exact h.rl.traw b e
  · intro hn b o e
    have h7 := h.rl.src hn b o e
    have hbs : b < w.heap.size := by
      obtain ⟨g, r, h1⟩ := h.rl.bio
      obtain ⟨wp, i, err, lb, lr, pr, k1, _⟩ := h1.ex
      obtain ⟨b2, o2, k2, _, k3, _⟩ := k1.ok.src hn
      rw [e] at k2
      cases k2
      exact k3
    rw [ho b hbs]; exact h7
/-- A position is laid beside. -/
theorem Wk.newpos (h : Wk w0 T0 w T A cB ae N st pB U n off rb ar cr af cf ap cp R ix ps pl pc) (x y : Int) (wx : World) (e1 : wx.heap = (w.alloc (.cells #[.int .i64 x, .int .i64 y] 128)).heap) (e2 : wx.os = w.os) (e3 : wx.tape = w.tape) (e4 : wx.output = w.output) :
    ∃ T', Wk w0 T0 wx T' A cB ae N st pB U n off rb ar cr af cf ap cp R ix ps pl pc ∧ Ps wx T' w.heap.size x y ∧ Old w T T' ∧ Kp (fun _ => False) w wx := by
  have hk : Kp (fun _ => False) w wx := Kp.of_alloc e1 e2 e3 e4 _
  let T' : Nat → Nat := fun k => if k = w.heap.size then 9 else T k
  have hold : Old w T T' := fun k hk => if_neg (by omega)
  have hsz : wx.heap.size = w.heap.size + 1 := by rw [e1]; simp
  have h1 := h.quiet hk
  have ho' : Old w T T' := hold
  have hlt : ∀ k, T k ≠ 0 → k < w.heap.size := h.rr.rl.lt
  have hoo : ∀ k, T k ≠ 0 → T' k = T k := fun k hk2 => hold k (hlt k hk2)
  have hl' : ∀ k, T' k ≠ 0 → k < wx.heap.size := fun k hk2 => by
    by_cases hc : k = w.heap.size
    · omega
    · have h6 : T' k = T k := if_neg hc
      rw [h6] at hk2
      have := hlt k hk2
      omega
  have hr : Rr wx T' A cB ae U n off rb (.slice ar R.length cr) (.slice af ix.length cf) (.slice ap ps.length cp) R ix ps := by
    have h2 := h1.rr
    refine ⟨⟨h2.rl.blk, h2.rl.bio, ?_, ?_, ?_, ?_, h2.rl.own, ?_, hl', ?_⟩, h2.orec, h2.ofi, h2.ofp, fun b e => ?_, fun b e => ?_, fun b e => ?_⟩
    · rw [hoo cB (by rw [h2.rl.tc]; decide)]; exact h2.rl.tc
    · rw [hoo _ (by rw [h2.rl.tI]; decide)]; exact h2.rl.tI
    · rw [hoo _ (by rw [h2.rl.tB]; decide)]; exact h2.rl.tB
    · rw [hoo _ (by rw [h2.rl.tR]; decide)]; exact h2.rl.tR
    · intro b e; have := h2.rl.traw b e; rw [hoo b (by omega)]; exact this
    · intro hn b o e
      have h7 := h.rr.rl.src hn b o e
      have hbs : b < w.heap.size := by
        obtain ⟨g, r, h1⟩ := h.rr.rl.bio
        obtain ⟨wp, i, err, lb, lr, pr, k1, _⟩ := h1.ex
        obtain ⟨b2, o2, k2, _, k3, _⟩ := k1.ok.src hn
        rw [e] at k2
        cases k2
        exact k3
      rw [hold b hbs]; exact h7
    · have := h2.trec b e; rw [hoo b (by omega)]; exact this
    · have := h2.tfi b e; rw [hoo b (by omega)]; exact this
    · have := h2.tfp b e; rw [hoo b (by omega)]; exact this
  refine ⟨T', ⟨hr, h.pos.kept hk (fun _ e => e.elim) hold, h.jx.step hk (fun _ e => e.elim) hold, h.nb, h.lR, h.lx, h.lp⟩, ⟨(Blk.new w 128 _).heap e1, if_pos rfl⟩, hold, hk⟩
set_option maxRecDepth 1000000 in
set_option maxHeartbeats 8000000 in
theorem rB {ab : Addr} (h0 : f 0 = .pointer (some ⟨cB, 0, none⟩)) (h1 : f 1 = .slice none 0 0) (h6 : f 6 = .slice (some ⟨b, o, none⟩) N1 cap) (h7 : f 7 = .nilIface) (h8 : f 8 = .nilIface) (h9 : f 9 = .int .i64 1) (h10 : f 10 = .int .i64 st) (h11 : f 11 = .pointer (some ⟨pB, 0, none⟩))
    (hz : Pz w0 T0 w T A cB ae N st pB U n fs.flatten fs ps pl pc l) (hR : R = fs.flatten) (hix : ix = cumF 0 fs) (hW : Wk w0 T0 w T A cB ae N st pB U n off rb ar cr af cf ap cp R ix ps pl pc) (hlv : Lv w T (.slice (some ⟨b, o, none⟩) N1 cap) l) (hfd : Fd X l U fs n) {l2 : Bs} (hl : l = 34 :: l2) (hg : G0 w0 T0 ae ab aq abq) (hN : N ≤ 1099511626000)
    (hJ : ∀ k a' w', k < l.length + U.length → IF w0 T0 A cB ae N st pB X k a' w' → J a' w') (hR2 : ∀ a' w', ID w0 T0 A cB ae aq abq N st pB X a' w' → R2 a' w') : Code.wp Tryz.prog (bd2 Tryz.f55.body) (Exit.then J (QX R2)) (Fr f) w := by
  obtain ⟨hN1, hcp1, hcp2, -⟩ := hlv.facts
  have hbig : (N1 : Int) ≤ 3000000 := by have := hz.tot; omega
  have hll : l.length = 1 + l2.length := by rw [hl]; simp; omega
  have hN1' : (0 : Int) < N1 := by omega
  have hN0 : ((N1 : Int) == 0) = false := by rw [beq_eq_false_iff_ne]; omega
  have hcell : w.cell? ⟨b, o, none⟩ = some (.int .u8 34) := by
    obtain ⟨_, _, _, hcs⟩ := hlv.facts
    subst hl
    exact hcs 0 (by simp)
  have c4 : w.cell? ⟨cB, 4, none⟩ = some (.bool false) := hW.cell rfl
  have p0 : w.cell? ⟨pB, 0, none⟩ = some (.int .i64 pl) := hW.pos.blk.cell rfl
  have p1 : w.cell? ⟨pB, 1, none⟩ = some (.int .i64 pc) := hW.pos.blk.cell rfl
  have pf := hW.pos.blk.free 1
  have np := World.new_ne w _ p1
  have np2 : ¬ pB = w.heap.size := fun e => np e.symm
  have p1a : ∀ q, (w.alloc q).cell? ⟨pB, 1, none⟩ = some (.int .i64 pc) := fun q => (hW.pos.blk.alloc q).cell rfl
  have pfa : ∀ q, (w.alloc q).frozen? ⟨pB, 1, none⟩ = false := fun q => (hW.pos.blk.alloc q).free 1
  obtain ⟨b2, o2, cap2, hsl, -, -, hlv2⟩ := hlv.drop (k := 1) (by omega) 1 rfl l2.length (by omega)
  have hdr : l.drop 1 = l2 := by rw [hl]; rfl
  rw [hdr] at hlv2
  have Hz := hide hz
  have HR := hide hR
  have Hix := hide hix
  have HW := hide hW
  have Hlv := hide hlv
  have Hfd := hide hfd
  have Hl := hide hl
  have Hll := hide hll
  have Hg := hide hg
  have HJ := hide hJ
  have HR2 := hide hR2
  clear hz hR hix hW hlv hfd hl hll hN1 hdr hg hJ hR2
  conv => arg 2; whnf
  unfold Fr
  rw [h0, h1, h6, h7, h8, h9, h10, h11]
  clear h0 h1 h6 h7 h8 h9 h10 h11
  go_upto_block 4 with fail
  obtain ⟨T1, W1k, Q1, q1, k1⟩ := HW.out.newpos pl pc _ rfl rfl rfl rfl
  have hll := Hll.out
  have htot := Hz.out.tot
  rw [← HR.out] at htot
  have hR : R = fs.flatten ++ [] := by rw [HR.out, List.append_nil]
  have L1 := hlv2.out.kept k1 (fun _ e => e.elim) q1
  have hw2 := fun (x : Int) (wx : World) e1 e2 e3 e4 => W1k.col x wx e1 e2 e3 e4
  refine wp_block ?_
  refine wp_mono (loop4 (R3 := J) (R2 := R2) (qB := w.heap.size) (gk := l2.length + U.length) ⟨⟨rfl, rfl, rfl, rfl, rfl, rfl, rfl⟩, rfl, rfl, rfl, T1, U, n, off, rb, ar, cr, af, cf, ap, cp, R, ix, ps, pl, _, fs, [], l2, pl, pc, (hw2 _ _ rfl rfl rfl rfl).1.nb' (Nat.le_succ_of_le HW.out.nb), hR, Hix.out, Hz.out.ph, Hz.out.len, by omega, np, Q1.other (hw2 _ _ rfl rfl rfl rfl).2 np, Hz.out.pl0, L1.kept (hw2 _ _ rfl rfl rfl rfl).2 (fun k e => by rw [e, W1k.pos.tag]; decide) (fun _ _ => rfl), by have h5 := Hfd.out; rw [Hl.out] at h5; exact h5.quote, rfl, fun _ => HW.out.nb⟩ Hg.out hN (fun k a' w' hk h => HJ.out k a' w' (by omega) h) HR2.out) ?_
  intro e a' w' h
  rcases h.elim with ⟨rfl, h⟩ | ⟨rfl, h⟩
  · exact h
  · exact h
end
end Go.Proofs.Qxb6615582aGreatFmt
