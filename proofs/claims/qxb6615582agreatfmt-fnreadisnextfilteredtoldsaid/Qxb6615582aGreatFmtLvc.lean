import Derived.Test.Qxb6615582aGreatFmtRd
namespace Go.Proofs.Qxb6615582aGreatFmt
open Go.RowKit

theorem idx_lv {w : World} {T : Nat → Nat} {v : Value} {l : Bs} {c : UInt8} (h : Lv w T v l) : Calls Tryz.prog 74 #[v, .int .u8 c.toNat] w fun e w' => e = .returned (.int .i64 (Lib.indexByte l c)) ∧ w' = w := by
  obtain ⟨b, o, cap, rfl, _, _, hc⟩ := h.form
  exact indexByte_c hc
theorem idr_lv {w : World} {T : Nat → Nat} {v : Value} {l : Bs} (h : Lv w T v l) : Calls Tryz.prog 73 #[v, .int .i32 44] w fun e w' => e = .returned (.int .i64 (Lib.indexByte l 44)) ∧ w' = w := by
  obtain ⟨b, o, cap, rfl, _, _, hc⟩ := h.form
  exact indexRune_c hc
theorem lnl_lv {w : World} {T : Nat → Nat} {v : Value} {l : Bs} (h : Lv w T v l) (hl : l.length ≤ 4294967296) : Calls Tryz.prog 68 #[v] w fun e w' => e = .returned (.int .i64 (lnl l)) ∧ w' = w := by
  obtain ⟨b, o, cap, rfl, _, _, hc⟩ := h.form
  exact lengthNL_c hc hl
theorem nr_lv {w : World} {T : Nat → Nat} {v : Value} {l : Bs} (h : Lv w T v l) (hT : Lib.Utf8Tabs 3 4 w) : Calls Tryz.prog 67 #[v] w fun e w' => e = .returned (.int .i32 (nr l)) ∧ Below w.heap.size w w' := by
  obtain ⟨b, o, cap, rfl, _, _, hc⟩ := h.form
  exact nextRune_c hc hT
theorem Lv.facts {w : World} {T : Nat → Nat} {b o N1 cap : Nat} {l : Bs} (h : Lv w T (.slice (some ⟨b, o, none⟩) N1 cap) l) : N1 = l.length ∧ (N1 : Int) ≤ cap ∧ (cap : Int) ≤ 9223372036854775807 ∧ ∀ (j : Nat) (hj : j < l.length), w.cell? ⟨b, o + j, none⟩ = some (.int .u8 l[j].toNat) := by
  obtain ⟨b', o', cap', e1, h2, h3, _, _, hcs⟩ := h.ex
  cases e1
  exact ⟨rfl, by omega, by omega, hcs⟩
/-- The first byte of a line that does not open with a quote mark. -/
theorem Lv.head {w : World} {T : Nat → Nat} {b o N1 cap : Nat} {l : Bs} (h : Lv w T (.slice (some ⟨b, o, none⟩) N1 cap) l) (hne : l ≠ []) (hq : l.head? ≠ some 34) : ∃ c : UInt8, ((c.toNat : Int) == 34) = false ∧ w.cell? ⟨b, o, none⟩ = some (.int .u8 c.toNat) := by
  obtain ⟨_, _, _, hcs⟩ := h.facts
  cases l with
  | nil => exact absurd rfl hne
  | cons c r =>
    refine ⟨c, ?_, hcs 0 (by simp)⟩
    rw [beq_eq_false_iff_ne]
    intro e
    exact hq (by simp; exact UInt8.toNat_inj.1 (by have : (34 : UInt8).toNat = 34 := rfl; omega))
/-- A line parted at its newline. -/
theorem Ln.parted {l U : Bs} (h : Ln l U) : ∃ a z, l = a ++ z ∧ lnl l = z.length ∧ (z = [10] ∨ (z = [] ∧ 10 ∉ a)) := by
  rcases h with ⟨a, rfl, h⟩ | ⟨h, _⟩
  · exact ⟨a, [10], rfl, by simp [lnl], .inl rfl⟩
  · refine ⟨l, [], by simp, ?_, .inr ⟨rfl, h⟩⟩
    unfold lnl
    rw [if_neg (fun e => h (List.mem_of_getLast? e))]
    rfl
/-- Another field's record in the rows: heads and lengths. -/
theorem ph_snoc {ps : List (Int × Int)} {st : Nat} {x y : Int} (h0 : ps = [] → x = st) (h1 : ∀ p, ps.head? = some p → p.1 = st) : ∀ p, (ps ++ [(x, y)]).head? = some p → p.1 = st := by
  intro p hp
  cases ps with
  | nil => simp at hp; rw [← hp]; exact h0 rfl
  | cons q r => simp at hp; rw [← hp]; exact h1 q rfl
theorem cum_eq {ix : List Nat} {R a : Bs} {fs : List Bs} (hR : R = fs.flatten) (hix : ix = cumF 0 fs) : ix ++ [(R ++ a).length] = cumF 0 (fs ++ [a]) ∧ R ++ a = (fs ++ [a]).flatten := by
  subst hR hix
  constructor
  · rw [cumF_snoc]; simp
  · simp
section
variable {w0 : World} {T0 : Nat → Nat} {w : World} {T : Nat → Nat} {A : RA} {cB : Nat} {ae aq abq : Addr} {N st pB : Nat} {U : Bs} {n : Nat} {off : Int} {rb : Value} {ar : Option Addr} {cr : Nat} {af : Option Addr} {cf : Nat} {ap : Option Addr} {cp : Nat} {R : Bs} {ix : List Nat} {ps : List (Int × Int)} {pl pc : Int} {fs : List Bs} {X : Out} {z : Bs}
/-- A fault ends the record. -/
theorem Wk.err (h : Wk w0 T0 w T A cB ae N st pB U n off rb ar cr af cf ap cp R ix ps pl pc) (hR : R = fs.flatten ++ z) (hix : ix = cumF 0 fs) (ph : ∀ p, ps.head? = some p → p.1 = st) (hl : ps.length = fs.length) (ht : R.length + fs.length ≤ 3000001) (x y : Int) (a : Addr) (ha : (a = aq ∧ Done X U n 2 []) ∨ (a = abq ∧ Done X U n 3 [])) (s7 s8 : Value) (wx : World)
    (e1 : wx.heap = (w.alloc (.cells #[.int .i64 st, .int .i64 x, .int .i64 y, .iface 95 (.pointer (some a))] 87)).heap) (e2 : wx.os = w.os) (e3 : wx.tape = w.tape) (e4 : wx.output = w.output) (h7 : s7 = .nilIface) (h8 : s8 = .iface 83 (.pointer (some ⟨w.heap.size, 0, none⟩))) :
    Pd w0 T0 A cB ae aq abq N st X s7 s8 wx := by
  have hk : Kp (fun _ => False) w wx := Kp.of_alloc e1 e2 e3 e4 _
  have hb : Blk wx w.heap.size 87 #[.int .i64 st, .int .i64 x, .int .i64 y, .iface 95 (.pointer (some a))] := (Blk.new w 87 _).heap e1
  have ht0 : T w.heap.size = 0 := by
    rcases Nat.eq_zero_or_pos (T w.heap.size) with e | e
    · exact e
    · have := h.rr.rl.lt w.heap.size (by omega); omega
  exact ⟨h7, T, U, n, R, fs, ps, z, ⟨⟨_, _, _, _, _, by rw [← hix]; exact h.rr.kept hk (fun _ e => e.elim)⟩, h.jx.step hk (fun _ e => e.elim) (fun _ _ => rfl), Nat.le_succ_of_le h.nb⟩, hR, ht, ph, hl, .inr ⟨w.heap.size, a, h8, ⟨⟨x, y, hb⟩, ht0⟩, ha⟩⟩
/-- The record is whole. -/
theorem Wk.fin (h : Wk w0 T0 w T A cB ae N st pB U n off rb ar cr af cf ap cp R ix ps pl pc) (hR : R = fs.flatten) (hix : ix = cumF 0 fs) (ph : ∀ p, ps.head? = some p → p.1 = st) (hl : ps.length = fs.length) (ht : R.length + fs.length ≤ 3000001) (hd : Done X U n 0 fs) (hn : fs ≠ []) (s7 s8 : Value) (h7 : s7 = .nilIface) (h8 : s8 = .nilIface) :
    Pd w0 T0 A cB ae aq abq N st X s7 s8 w :=
  ⟨h7, T, U, n, R, fs, ps, [], ⟨⟨_, _, _, _, _, by rw [← hix]; exact h.rr⟩, h.jx, Nat.le_succ_of_le h.nb⟩, by rw [hR, List.append_nil], ht, ph, hl, .inl ⟨h8, hd, hn⟩⟩
/-- Another field begins. -/
theorem Wk.field (h : Wk w0 T0 w T A cB ae N st pB U n off rb ar cr af cf ap cp R ix ps pl pc) (hR : R = fs.flatten) (hix : ix = cumF 0 fs) (ph : ∀ p, ps.head? = some p → p.1 = st) (hl : ps.length = fs.length) (hp : ps ≠ []) {l : Bs} {v : Value} (ht : R.length + fs.length + l.length + U.length ≤ 2000000) (hlv : Lv w T v l) (hf : Fd X l U fs n) (s7 s8 : Value) (h7 : s7 = .nilIface) (h8 : s8 = .nilIface) :
    PF w0 T0 A cB ae N st pB X (l.length + U.length) v s7 s8 w := by
  subst hR
  exact ⟨h7, h8, T, U, n, fs, ps, pl, pc, l, ⟨⟨⟨_, _, _, _, _, by rw [← hix]; exact h.rr⟩, h.jx, h.nb⟩, h.pos, fun e => absurd e hp, ph, hl, ht⟩, hlv, hf, rfl⟩
end
theorem Ps.other {w w' : World} {T : Nat → Nat} {q p : Nat} {l c : Int} (h : Ps w T q l c) (hk : Kp (fun k => k = p) w w') (hn : q ≠ p) : Ps w' T q l c := ⟨h.blk.kept hk hn, h.tag⟩
/-- Inside quotes. -/
def PQ2 (w0 : World) (T0 : Nat → Nat) (A : RA) (cB : Nat) (ae : Addr) (N st pB qB : Nat) (X : Out) (gk : Nat) (s6 s7 : Value) (wr : World) : Prop :=
  s7 = .nilIface ∧ ∃ T U n off rb ar cr af cf ap cp R ix ps pl pc fs buf l ql qc, Wk w0 T0 wr T A cB ae N st pB U n off rb ar cr af cf ap cp R ix ps pl pc ∧ R = fs.flatten ++ buf ∧ ix = cumF 0 fs ∧ (∀ p, ps.head? = some p → p.1 = (st : Int)) ∧ ps.length = fs.length ∧ R.length + fs.length + l.length + U.length ≤ 2000000 ∧ qB ≠ pB ∧ Ps wr T qB ql qc ∧ (ps = [] → ql = st) ∧ Lv wr T s6 l ∧ Qd X l U buf fs n ∧ l.length + U.length = gk
def IQ2 (w0 : World) (T0 : Nat → Nat) (A : RA) (cB : Nat) (ae : Addr) (N st pB qB : Nat) (X : Out) (gk : Nat) (a : Act) (w : World) : Prop :=
  OkA cB st pB a ∧ a.eval (.tmp 8) = .nilIface ∧ a.eval (.tmp 17) = .pointer (some ⟨qB, 0, none⟩) ∧ PQ2 w0 T0 A cB ae N st pB qB X gk (a.eval (.tmp 6)) (a.eval (.tmp 7)) w
/-- What may come of a round inside quotes: it goes to the next field, or leaves. -/
def QY (R3 R2 : Act → World → Prop) : Exit → Act → World → Prop
  | .exit 3, a, w => R3 a w
  | .exit 2, a, w => R2 a w
  | _, _, _ => False
section
variable {w0 : World} {T0 : Nat → Nat} {w : World} {T : Nat → Nat} {A : RA} {cB : Nat} {ae : Addr} {N st pB : Nat} {U : Bs} {n : Nat} {off : Int} {rb : Value} {ar : Option Addr} {cr : Nat} {af : Option Addr} {cf : Nat} {ap : Option Addr} {cp : Nat} {R : Bs} {ix : List Nat} {ps : List (Int × Int)} {pl pc : Int}
theorem Wk.quiet (h : Wk w0 T0 w T A cB ae N st pB U n off rb ar cr af cf ap cp R ix ps pl pc) {wx : World} (hk : Kp (fun _ => False) w wx) : Wk w0 T0 wx T A cB ae N st pB U n off rb ar cr af cf ap cp R ix ps pl pc :=
  ⟨h.rr.kept hk (fun _ e => e.elim), h.pos.kept hk (fun _ e => e.elim) (fun _ _ => rfl), h.jx.step hk (fun _ e => e.elim) (fun _ _ => rfl), h.nb, h.lR, h.lx, h.lp⟩
/-- A line is read. -/
theorem Wk.line (h : Wk w0 T0 w T A cB ae N st pB U n off rb ar cr af cf ap cp R ix ps pl pc) {wx : World} {T' : Nat → Nat} {U' : Bs} {n' : Nat} {off' : Int} {rb' : Value} {N' : Nat} (hl : Rl wx T' A cB ae U' n' off' rb' (.slice ar R.length cr) (.slice af ix.length cf) (.slice ap ps.length cp)) (hk : Kp (Fl T) w wx) (he : Ext w T T') (hn : n' + U'.length ≤ N') :
    Wk w0 T0 wx T' A cB ae N' st pB U' n' off' rb' ar cr af cf ap cp R ix ps pl pc :=
  ⟨h.rr.line hl hk he, h.pos.kept hk (fun k e => by unfold Fl at e; omega) he.old, h.jx.step hk (fun k e => by unfold Fl at e; omega) he.old, hn, h.lR, h.lx, h.lp⟩
end
end Go.Proofs.Qxb6615582aGreatFmt
