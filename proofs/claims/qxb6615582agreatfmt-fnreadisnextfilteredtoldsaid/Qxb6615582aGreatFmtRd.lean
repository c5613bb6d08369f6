import Derived.Test.Qxb6615582aGreatFmtRc
import Derived.Deep.CutBlock
namespace Go.Proofs.Qxb6615582aGreatFmt
open Go.RowKit

/-- The slots that the record's parsing leaves alone. -/
def OkA (cB st pB : Nat) (a : Act) : Prop :=
  a.tmps.size = 560 ∧ a.defers = [] ∧ a.eval (.tmp 0) = .pointer (some ⟨cB, 0, none⟩) ∧ a.eval (.tmp 1) = .slice none 0 0 ∧ a.eval (.tmp 9) = .int .i64 1 ∧ a.eval (.tmp 10) = .int .i64 st ∧ a.eval (.tmp 11) = .pointer (some ⟨pB, 0, none⟩)
def IF (w0 : World) (T0 : Nat → Nat) (A : RA) (cB : Nat) (ae : Addr) (N st pB : Nat) (X : Out) (gk : Nat) (a : Act) (w : World) : Prop :=
  OkA cB st pB a ∧ PF w0 T0 A cB ae N st pB X gk (a.eval (.tmp 6)) (a.eval (.tmp 7)) (a.eval (.tmp 8)) w
def ID (w0 : World) (T0 : Nat → Nat) (A : RA) (cB : Nat) (ae aq abq : Addr) (N st pB : Nat) (X : Out) (a : Act) (w : World) : Prop :=
  OkA cB st pB a ∧ Pd w0 T0 A cB ae aq abq N st X (a.eval (.tmp 7)) (a.eval (.tmp 8)) w
def IQ (w0 : World) (T0 : Nat → Nat) (A : RA) (cB : Nat) (ae : Addr) (N st pB qB : Nat) (X : Out) (gk : Nat) (a : Act) (w : World) : Prop :=
  OkA cB st pB a ∧ a.eval (.tmp 8) = .nilIface ∧ a.eval (.tmp 17) = .pointer (some ⟨qB, 0, none⟩) ∧ PQ w0 T0 A cB ae N st pB qB X gk (a.eval (.tmp 6)) (a.eval (.tmp 7)) w

/-- What may come of a round: it leaves block 2. -/
def QX (R2 : Act → World → Prop) : Exit → Act → World → Prop
  | .exit 2, a, w => R2 a w
  | _, _, _ => False
/-- The state, laid out for a walk. -/
structure Wk (w0 : World) (T0 : Nat → Nat) (w : World) (T : Nat → Nat) (A : RA) (cB : Nat) (ae : Addr) (N st pB : Nat) (U : Bs) (n : Nat) (off : Int) (rb : Value) (ar : Option Addr) (cr : Nat) (af : Option Addr) (cf : Nat) (ap : Option Addr) (cp : Nat) (R : Bs) (ix : List Nat) (ps : List (Int × Int)) (pl pc : Int) : Prop where
  rr : Rr w T A cB ae U n off rb (.slice ar R.length cr) (.slice af ix.length cf) (.slice ap ps.length cp) R ix ps
  pos : Ps w T pB pl pc
  jx : Jx w0 T0 w T
  nb : n + U.length ≤ N
  lR : R.length ≤ 3000000
  lx : ix.length ≤ 3000000
  lp : ps.length ≤ 3000000
section
variable {w0 : World} {T0 : Nat → Nat} {w : World} {T : Nat → Nat} {A : RA} {cB : Nat} {ae : Addr} {N st pB : Nat} {U : Bs} {n : Nat} {off : Int} {rb : Value} {ar : Option Addr} {cr : Nat} {af : Option Addr} {cf : Nat} {ap : Option Addr} {cp : Nat} {R : Bs} {ix : List Nat} {ps : List (Int × Int)} {pl pc : Int}
/-- A row of the reader has grown. -/
theorem Wk.grow_rec (h : Wk w0 T0 w T A cB ae N st pB U n off rb ar cr af cf ap cp R ix ps pl pc) {R' : Bs} {ar' : Option Addr} {cr' : Nat} {wx : World} {v : Value} (hv : v = .slice ar' R'.length cr') {T' : Nat → Nat} (hr : Rr wx T' A cB ae U n off rb v (.slice af ix.length cf) (.slice ap ps.length cp) R' ix ps) (hk : Kp (fun k => T k = 1 ∨ T k = 6) w wx) (ho : Old w T T') (hl : R'.length ≤ 3000000) :
    Wk w0 T0 wx T' A cB ae N st pB U n off rb ar' cr' af cf ap cp R' ix ps pl pc :=
  ⟨by subst hv; exact hr, h.pos.kept hk (fun k e => by omega) ho, h.jx.step hk (fun k e => by omega) ho, h.nb, hl, h.lx, h.lp⟩
theorem Wk.grow_fi (h : Wk w0 T0 w T A cB ae N st pB U n off rb ar cr af cf ap cp R ix ps pl pc) {ix' : List Nat} {af' : Option Addr} {cf' : Nat} {wx : World} {v : Value} (hv : v = .slice af' ix'.length cf') {T' : Nat → Nat} (hr : Rr wx T' A cB ae U n off rb (.slice ar R.length cr) v (.slice ap ps.length cp) R ix' ps) (hk : Kp (fun k => T k = 1 ∨ T k = 7) w wx) (ho : Old w T T') (hl : ix'.length ≤ 3000000) :
    Wk w0 T0 wx T' A cB ae N st pB U n off rb ar cr af' cf' ap cp R ix' ps pl pc :=
  ⟨by subst hv; exact hr, h.pos.kept hk (fun k e => by omega) ho, h.jx.step hk (fun k e => by omega) ho, h.nb, h.lR, hl, h.lp⟩
theorem Wk.grow_fp (h : Wk w0 T0 w T A cB ae N st pB U n off rb ar cr af cf ap cp R ix ps pl pc) {ps' : List (Int × Int)} {ap' : Option Addr} {cp' : Nat} {wx : World} {v : Value} (hv : v = .slice ap' ps'.length cp') {T' : Nat → Nat} (hr : Rr wx T' A cB ae U n off rb (.slice ar R.length cr) (.slice af ix.length cf) v R ix ps') (hk : Kp (fun k => T k = 1 ∨ T k = 8) w wx) (ho : Old w T T') (hl : ps'.length ≤ 3000000) :
    Wk w0 T0 wx T' A cB ae N st pB U n off rb ar cr af cf ap' cp' R ix ps' pl pc :=
  ⟨by subst hv; exact hr, h.pos.kept hk (fun k e => by omega) ho, h.jx.step hk (fun k e => by omega) ho, h.nb, h.lR, h.lx, hl⟩
/-- The position turned. -/
theorem Wk.turn (h : Wk w0 T0 w T A cB ae N st pB U n off rb ar cr af cf ap cp R ix ps pl pc) {wx : World} {pl' pc' : Int} (hk : Kp (fun k => k = pB) w wx) (hb : Blk wx pB 128 #[.int .i64 pl', .int .i64 pc']) :
    Wk w0 T0 wx T A cB ae N st pB U n off rb ar cr af cf ap cp R ix ps pl' pc' :=
  ⟨h.rr.kept hk (fun k e => by rw [e, h.pos.tag]; omega), ⟨hb, h.pos.tag⟩, h.jx.step hk (fun k e => by rw [e, h.pos.tag]; decide) (fun _ _ => rfl), h.nb, h.lR, h.lx, h.lp⟩
theorem Wk.col (h : Wk w0 T0 w T A cB ae N st pB U n off rb ar cr af cf ap cp R ix ps pl pc) (x : Int) (wx : World) (e1 : wx.heap = (w.setCell ⟨pB, 1, none⟩ (.int .i64 x)).heap) (e2 : wx.os = w.os) (e3 : wx.tape = w.tape) (e4 : wx.output = w.output) :
    Wk w0 T0 wx T A cB ae N st pB U n off rb ar cr af cf ap cp R ix ps pl x ∧ Kp (fun k => k = pB) w wx := by
  have hk : Kp (fun k => k = pB) w wx := Kp.heap ((Kp.refl (fun k => k = pB) w).setCell (p := ⟨pB, 1, none⟩) (.inl rfl) _) e1 e2 e3 e4
  have hb := (h.pos.blk.store 1 (.int .i64 x)).heap e1
  exact ⟨h.turn hk (by simpa using hb), hk⟩
/-- The world's counter of draws does not matter. -/
theorem Wk.same (h : Wk w0 T0 w T A cB ae N st pB U n off rb ar cr af cf ap cp R ix ps pl pc) {wx : World} (e1 : wx.heap = w.heap) (e2 : wx.os = w.os) (e3 : wx.tape = w.tape) (e4 : wx.output = w.output) : Wk w0 T0 wx T A cB ae N st pB U n off rb ar cr af cf ap cp R ix ps pl pc := by
  have hk : Kp (fun _ => False) w wx := Kp.of_eq e1 e2 e3 e4 _
  exact ⟨h.rr.kept hk (fun k e => e.elim), h.pos.kept hk (fun k e => e.elim) (fun _ _ => rfl), h.jx.step hk (fun k e => e.elim) (fun _ _ => rfl), h.nb, h.lR, h.lx, h.lp⟩
theorem Wk.cell (h : Wk w0 T0 w T A cB ae N st pB U n off rb ar cr af cf ap cp R ix ps pl pc) {k : Nat} {v : Value} (hk : (cc A.bI n off rb (.slice ar R.length cr) (.slice af ix.length cf) (.slice ap ps.length cp))[k]? = some v) : w.cell? ⟨cB, k, none⟩ = some v := h.rr.rl.blk.cell hk
theorem Wk.free (h : Wk w0 T0 w T A cB ae N st pB U n off rb ar cr af cf ap cp R ix ps pl pc) (k : Nat) : w.frozen? ⟨cB, k, none⟩ = false := h.rr.rl.blk.free k
theorem Wk.ne (h : Wk w0 T0 w T A cB ae N st pB U n off rb ar cr af cf ap cp R ix ps pl pc) : ¬ cB = pB ∧ ¬ pB = cB := by
  have h1 : ¬ cB = pB := fun e => by have := h.pos.tag; rw [← e, h.rr.rl.tc] at this; omega
  exact ⟨h1, fun e => h1 e.symm⟩
end
/-- From a round's relation to the walk. -/
theorem Pz.walk {w0 w : World} {T0 T : Nat → Nat} {A : RA} {cB : Nat} {ae : Addr} {N st pB : Nat} {U : Bs} {n : Nat} {R : Bs} {fs : List Bs} {ps : List (Int × Int)} {pl pc : Int} {l : Bs} (h : Pz w0 T0 w T A cB ae N st pB U n R fs ps pl pc l) :
    ∃ off rb ar cr af cf ap cp, Wk w0 T0 w T A cB ae N st pB U n off rb ar cr af cf ap cp R (cumF 0 fs) ps pl pc := by
  obtain ⟨off, rb, rec, fi, fp, h1⟩ := h.rx.rr
  obtain ⟨ar, cr, rfl, _⟩ := own_form h1.orec
  obtain ⟨af, cf, rfl, _⟩ := own_form h1.ofi
  obtain ⟨ap, cp, rfl, _⟩ := own_form h1.ofp
  have h2 := h.tot
  have h3 := h.len
  exact ⟨off, rb, ar, cr, af, cf, ap, cp, h1, h.pos, h.rx.jx, h.rx.nb, by omega, by rw [cumF_length]; omega, by omega⟩
/-- Region k. -/
def rgOf (k : Nat) : Code → Option Code
  | .region m ops d => match Nat.beq m k with
    | true => some (.region m ops d)
    | false => none
  | .seq a b => match rgOf k a with
    | some c => some c
    | none => rgOf k b
  | .cond _ a b => match rgOf k a with
    | some c => some c
    | none => rgOf k b
  | .loop c => rgOf k c
  | .scope c => rgOf k c
  | .block _ c => rgOf k c
  | _ => none
def rg (b0 : Option Code) (k : Nat) : Code := (b0.bind (rgOf k)).getD .skip
/-- The named slots are as they were. -/
structure Sm (f f' : Nat → Value) : Prop where
  s0 : f' 0 = f 0
  s1 : f' 1 = f 1
  s6 : f' 6 = f 6
  s7 : f' 7 = f 7
  s8 : f' 8 = f 8
  s9 : f' 9 = f 9
  s10 : f' 10 = f 10
  s11 : f' 11 = f 11
  s13 : f' 13 = f 13
  s17 : f' 17 = f 17
theorem K_of {K : Act → World → Prop} {a : Act} {W : World} (h1 : a.tmps.size = 560) (h2 : a.defers = []) (h3 : K (Fr fun k => a.eval (.tmp k)) W) : K a W := by
  rw [frame_of a h1 h2]; exact h3
theorem use_seg {P : Program} {c : Code} {K : Act → World → Prop} {Q : Exit → Act → World → Prop} {a : Act} {w : World} {f : Nat → Value} (ha : a = Fr f) (h : c.wp P (Exit.then K (fun _ _ _ => False)) (Fr f) w) : c.wp P (Exit.then K Q) a w := by
  rw [ha]
  refine wp_mono h ?_
  intro e a' w' q
  cases e <;> first | exact q | exact q.elim
end Go.Proofs.Qxb6615582aGreatFmt
