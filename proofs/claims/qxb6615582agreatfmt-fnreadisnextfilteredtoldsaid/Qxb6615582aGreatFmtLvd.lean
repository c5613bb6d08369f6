import Derived.Test.Qxb6615582aGreatFmtLvc
namespace Go.Proofs.Qxb6615582aGreatFmt
open Go.RowKit

/-- Inside quotes; where the line is at its end, one call more may have been made. -/
def PQ3 (w0 : World) (T0 : Nat → Nat) (A : RA) (cB : Nat) (ae : Addr) (N st pB qB : Nat) (X : Out) (gk : Nat) (s6 s7 : Value) (wr : World) : Prop :=
  s7 = .nilIface ∧ ∃ T U n off rb ar cr af cf ap cp R ix ps pl pc fs buf l ql qc, Wk w0 T0 wr T A cB ae (N + 1) st pB U n off rb ar cr af cf ap cp R ix ps pl pc ∧ R = fs.flatten ++ buf ∧ ix = cumF 0 fs ∧ (∀ p, ps.head? = some p → p.1 = (st : Int)) ∧ ps.length = fs.length ∧ R.length + fs.length + l.length + U.length ≤ 2000000 ∧ qB ≠ pB ∧ Ps wr T qB ql qc ∧ (ps = [] → ql = st) ∧ Lv wr T s6 l ∧ Qd X l U buf fs n ∧ l.length + U.length = gk ∧ (l ≠ [] → n + U.length ≤ N)
def IQ3 (w0 : World) (T0 : Nat → Nat) (A : RA) (cB : Nat) (ae : Addr) (N st pB qB : Nat) (X : Out) (gk : Nat) (a : Act) (w : World) : Prop :=
  OkA cB st pB a ∧ a.eval (.tmp 8) = .nilIface ∧ a.eval (.tmp 17) = .pointer (some ⟨qB, 0, none⟩) ∧ PQ3 w0 T0 A cB ae N st pB qB X gk (a.eval (.tmp 6)) (a.eval (.tmp 7)) w
section
variable {w0 : World} {T0 : Nat → Nat} {w : World} {T : Nat → Nat} {A : RA} {cB : Nat} {ae aq abq : Addr} {N st pB : Nat} {U : Bs} {n : Nat} {off : Int} {rb : Value} {ar : Option Addr} {cr : Nat} {af : Option Addr} {cf : Nat} {ap : Option Addr} {cp : Nat} {R : Bs} {ix : List Nat} {ps : List (Int × Int)} {pl pc : Int} {fs : List Bs} {X : Out} {z : Bs}
theorem Wk.nb' (h : Wk w0 T0 w T A cB ae N st pB U n off rb ar cr af cf ap cp R ix ps pl pc) {N' : Nat} (hn : n + U.length ≤ N') : Wk w0 T0 w T A cB ae N' st pB U n off rb ar cr af cf ap cp R ix ps pl pc := ⟨h.rr, h.pos, h.jx, hn, h.lR, h.lx, h.lp⟩
theorem IQ2.up {qB gk : Nat} {a : Act} (h : IQ2 w0 T0 A cB ae N st pB qB X gk a w) : IQ3 w0 T0 A cB ae N st pB qB X gk a w := by
  obtain ⟨h1, h2, h3, h4, T, U, n, off, rb, ar, cr, af, cf, ap, cp, R, ix, ps, pl, pc, fs, buf, l, ql, qc, k1, k2, k3, k4, k5, k6, k7, k8, k9, k10, k11, k12⟩ := h
  exact ⟨h1, h2, h3, h4, T, U, n, off, rb, ar, cr, af, cf, ap, cp, R, ix, ps, pl, pc, fs, buf, l, ql, qc, k1.nb' (Nat.le_succ_of_le k1.nb), k2, k3, k4, k5, k6, k7, k8, k9, k10, k11, k12, fun _ => k1.nb⟩
/-- A fault at the end. -/
theorem Wk.errE (h : Wk w0 T0 w T A cB ae (N + 1) st pB U n off rb ar cr af cf ap cp R ix ps pl pc) (hR : R = fs.flatten ++ z) (hix : ix = cumF 0 fs) (ph : ∀ p, ps.head? = some p → p.1 = st) (hl : ps.length = fs.length) (ht : R.length + fs.length ≤ 3000001) (x y : Int) (a : Addr) (ha : (a = aq ∧ Done X U n 2 []) ∨ (a = abq ∧ Done X U n 3 [])) (s7 s8 : Value) (wx : World)
    (e1 : wx.heap = (w.alloc (.cells #[.int .i64 st, .int .i64 x, .int .i64 y, .iface 95 (.pointer (some a))] 87)).heap) (e2 : wx.os = w.os) (e3 : wx.tape = w.tape) (e4 : wx.output = w.output) (h7 : s7 = .nilIface) (h8 : s8 = .iface 83 (.pointer (some ⟨w.heap.size, 0, none⟩))) :
    Pd w0 T0 A cB ae aq abq N st X s7 s8 wx := by
  have hk : Kp (fun _ => False) w wx := Kp.of_alloc e1 e2 e3 e4 _
  have hb : Blk wx w.heap.size 87 #[.int .i64 st, .int .i64 x, .int .i64 y, .iface 95 (.pointer (some a))] := (Blk.new w 87 _).heap e1
  have ht0 : T w.heap.size = 0 := by
    rcases Nat.eq_zero_or_pos (T w.heap.size) with e | e
    · exact e
    · have := h.rr.rl.lt w.heap.size (by omega); omega
  exact ⟨h7, T, U, n, R, fs, ps, z, ⟨⟨_, _, _, _, _, by rw [← hix]; exact h.rr.kept hk (fun _ e => e.elim)⟩, h.jx.step hk (fun _ e => e.elim) (fun _ _ => rfl), h.nb⟩, hR, ht, ph, hl, .inr ⟨w.heap.size, a, h8, ⟨⟨x, y, hb⟩, ht0⟩, ha⟩⟩
/-- readLine from the walk's state. -/
theorem Wk.readLine {ab : Addr} (h : Wk w0 T0 w T A cB ae N st pB U n off rb ar cr af cf ap cp R ix ps pl pc) (hg : G0 w0 T0 ae ab aq abq) (hN : N ≤ 1099511627000) {qB : Nat} {ql qc : Int} (hq : Ps w T qB ql qc) :
    Calls Tryz.prog 66 #[.pointer (some ⟨cB, 0, none⟩)] w fun e w' => ∃ b' o' cap' T' off' rb', e = .returned (.tuple #[.slice (some ⟨b', o', none⟩) (trimCR (raw U).1).length cap', if U = [] then ev ae else .nilIface]) ∧ Wk w0 T0 w' T' A cB ae (n + 1 + (raw U).2.length) st pB (raw U).2 (n + 1) off' rb' ar cr af cf ap cp R ix ps pl pc ∧ Ps w' T' qB ql qc ∧ Lv w' T' (.slice (some ⟨b', o', none⟩) (trimCR (raw U).1).length cap') (trimCR (raw U).1) := by
  have g1 := hg.at_ h.jx
  refine (readLine_c h.rr.rl g1.e0 g1.e8 g1.ne (by have := h.nb; omega)).mono ?_
  rintro e w' ⟨v, T', off', rb', rfl, k1, k2, k3, k4⟩
  obtain ⟨b', o', cap', rfl, _, _, _⟩ := k2.form
  exact ⟨b', o', cap', T', off', rb', rfl, h.line k1 k3 k4 (Nat.le_refl _), hq.kept k3 (fun k e => by unfold Fl at e; omega) k4.old, k2⟩
end
end Go.Proofs.Qxb6615582aGreatFmt
