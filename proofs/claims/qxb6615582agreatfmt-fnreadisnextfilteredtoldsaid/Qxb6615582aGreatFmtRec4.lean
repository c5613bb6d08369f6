import Derived.Test.Qxb6615582aGreatFmtRec3
namespace Go.Proofs.Qxb6615582aGreatFmt
open Go.RowKit

/-- append by its run, some value and world, at a step of a region that draws. -/
theorem step_app2 {P : Program} {ops : Array Oper} {o : Oper} {a : Act} {w : World} {K : Act → World → Prop} {Q : Exit → Act → World → Prop} {E : Prop} (hgd : o.guard = none) (s x : Operand) (t : TypeId)
    (ho : o.op = .call { callee := .builtin .append, args := #[s, x], argTypes := #[t, t] }) {v sv : Value} (hs : a.eval s = v) (hx : a.eval x = sv) {m : Nat} {Z : Option Addr → Nat → World → Prop} (hrun : ∃ ao cap w', Sem.run P (Builtin.append_ #[t, t] o.type #[v, sv]) w = .ok (.slice ao m cap) w' ∧ Z ao cap w') (h : ∀ ao cap w', Z ao cap w' → K (a.put o.dst (.slice ao m cap)) w') : if Region.wanted o (yielded ops a.tmps) = true then Oper.wp P o a w K Q else E := by
  obtain ⟨ao, cap, w', h1, h2⟩ := hrun
  exact step_app hgd s x t ho hs hx h1 (h ao cap w' h2)
theorem wpList_app2 {P : Program} {ops : Array Oper} {rest : List Oper} {o : Oper} {a : Act} {w : World} {Q : Exit → Act → World → Prop} (hgd : o.guard = none) (s x : Operand) (t : TypeId)
    (ho : o.op = .call { callee := .builtin .append, args := #[s, x], argTypes := #[t, t] }) {v sv : Value} (hs : a.eval s = v) (hx : a.eval x = sv) {m : Nat} {Z : Option Addr → Nat → World → Prop} (hrun : ∃ ao cap w', Sem.run P (Builtin.append_ #[t, t] o.type #[v, sv]) w = .ok (.slice ao m cap) w' ∧ Z ao cap w') (h : ∀ ao cap w', Z ao cap w' → wpList P ops Q rest (a.put o.dst (.slice ao m cap)) w') : wpList P ops Q (o :: rest) a w := by
  obtain ⟨ao, cap, w', h1, h2⟩ := hrun
  exact wpList_app hgd s x t ho hs hx h1 (h ao cap w' h2)

/-- In the midst of a record. -/
structure Pz (w0 : World) (T0 : Nat → Nat) (w : World) (T : Nat → Nat) (A : RA) (cB : Nat) (ae : Addr) (N st pB : Nat) (U : Bs) (n : Nat) (R : Bs) (fs : List Bs) (ps : List (Int × Int)) (pl pc : Int) (l : Bs) : Prop where
  rx : Rx w0 T0 w T A cB ae N U n R (cumF 0 fs) ps
  pos : Ps w T pB pl pc
  pl0 : ps = [] → pl = st
  ph : ∀ p, ps.head? = some p → p.1 = st
  len : ps.length = fs.length
  tot : R.length + fs.length + l.length + U.length ≤ 2000000
/-- A field begins. -/
def PF (w0 : World) (T0 : Nat → Nat) (A : RA) (cB : Nat) (ae : Addr) (N st pB : Nat) (X : Out) (gk : Nat) (s6 s7 s8 : Value) (wr : World) : Prop :=
  s7 = .nilIface ∧ s8 = .nilIface ∧ ∃ T U n fs ps pl pc l, Pz w0 T0 wr T A cB ae N st pB U n fs.flatten fs ps pl pc l ∧ Lv wr T s6 l ∧ Fd X l U fs n ∧ l.length + U.length = gk
/-- Inside quotes. -/
def PQ (w0 : World) (T0 : Nat → Nat) (A : RA) (cB : Nat) (ae : Addr) (N st pB qB : Nat) (X : Out) (gk : Nat) (s6 s7 : Value) (wr : World) : Prop :=
  s7 = .nilIface ∧ ∃ T U n fs ps pl pc l buf ql qc, Pz w0 T0 wr T A cB ae N st pB U n (fs.flatten ++ buf) fs ps pl pc l ∧ Ps wr T qB ql qc ∧ (ps = [] → ql = st) ∧ Lv wr T s6 l ∧ Qd X l U buf fs n ∧ l.length + U.length = gk
/-- A ParseError's box. -/
structure Pe (w : World) (T : Nat → Nat) (pe : Nat) (st : Nat) (a : Addr) : Prop where
  ex : ∃ x y, Blk w pe 87 #[.int .i64 st, .int .i64 x, .int .i64 y, ev a]
  tag : T pe = 0
/-- A record is parsed. -/
def Pd (w0 : World) (T0 : Nat → Nat) (A : RA) (cB : Nat) (ae aq abq : Addr) (N st : Nat) (X : Out) (s7 s8 : Value) (wx : World) : Prop :=
  s7 = .nilIface ∧ ∃ T U n R fs ps z, Rx w0 T0 wx T A cB ae (N + 1) U n R (cumF 0 fs) ps ∧ R = fs.flatten ++ z ∧ R.length + fs.length ≤ 3000001 ∧ (∀ p, ps.head? = some p → p.1 = st) ∧ ps.length = fs.length ∧
    ((s8 = .nilIface ∧ Done X U n 0 fs ∧ fs ≠ []) ∨ (∃ pe a, s8 = .iface 83 (.pointer (some ⟨pe, 0, none⟩)) ∧ Pe wx T pe st a ∧ ((a = aq ∧ Done X U n 2 []) ∨ (a = abq ∧ Done X U n 3 []))))

section
variable {w : World} {T : Nat → Nat} {A : RA} {cB : Nat} {ae : Addr} {U : Bs} {n : Nat} {off : Int} {rb : Value} {R : Bs} {ix : List Nat} {ps : List (Int × Int)} {ar af ap : Option Addr} {cr cf cp : Nat}
/-- The rows cut to nothing, and a position laid. -/
theorem Rr.reset (h : Rr w T A cB ae U n off rb (.slice ar R.length cr) (.slice af ix.length cf) (.slice ap ps.length cp) R ix ps) (x y : Int) (wx : World)
    (e1 : wx.heap = ((((w.setCell ⟨cB, 11, none⟩ (.slice ar 0 cr)).setCell ⟨cB, 12, none⟩ (.slice af 0 cf)).setCell ⟨cB, 13, none⟩ (.slice ap 0 cp)).alloc (.cells #[.int .i64 x, .int .i64 y] 128)).heap) (e2 : wx.os = w.os) (e3 : wx.tape = w.tape) (e4 : wx.output = w.output) :
    ∃ T', Rr wx T' A cB ae U n off rb (.slice ar 0 cr) (.slice af 0 cf) (.slice ap 0 cp) [] [] [] ∧ Ps wx T' w.heap.size x y ∧ Kp (fun k => T k = 1) w wx ∧ Old w T T' := by
  let T' : Nat → Nat := fun k => if k = w.heap.size then 9 else T k
  have hold : ∀ k, k < w.heap.size → T' k = T k := fun k hk => if_neg (by omega)
  have hlt := h.rl.lt
  have hcs : cB < w.heap.size := h.rl.blk.lt
  have hk1 : Kp (fun k => k = cB) w (((w.setCell ⟨cB, 11, none⟩ (.slice ar 0 cr)).setCell ⟨cB, 12, none⟩ (.slice af 0 cf)).setCell ⟨cB, 13, none⟩ (.slice ap 0 cp)) := (((Kp.refl (fun k => k = cB) w).setCell (p := ⟨cB, 11, none⟩) (.inl rfl) _).setCell (p := ⟨cB, 12, none⟩) (.inl rfl) _).setCell (p := ⟨cB, 13, none⟩) (.inl rfl) _
  have hk : Kp (fun k => k = cB) w wx := Kp.heap (hk1.alloc _) e1 e2 e3 e4
  have hsz : (((w.setCell ⟨cB, 11, none⟩ (.slice ar 0 cr)).setCell ⟨cB, 12, none⟩ (.slice af 0 cf)).setCell ⟨cB, 13, none⟩ (.slice ap 0 cp)).heap.size = w.heap.size := by simp
  have hsz2 : wx.heap.size = w.heap.size + 1 := by rw [e1]; simp
  have hb : Blk wx cB 73 (cc A.bI n off rb (.slice ar 0 cr) (.slice af 0 cf) (.slice ap 0 cp)) := by
    have h1 := (((h.rl.blk.store 11 (.slice ar 0 cr)).store 12 (.slice af 0 cf)).store 13 (.slice ap 0 cp)).alloc (.cells #[.int .i64 x, .int .i64 y] 128)
    have h2 := h1.heap e1
    unfold cc at h2 ⊢
    simpa using h2
  have hp : Blk wx w.heap.size 128 #[.int .i64 x, .int .i64 y] := by
    have h1 := Blk.new (((w.setCell ⟨cB, 11, none⟩ (.slice ar 0 cr)).setCell ⟨cB, 12, none⟩ (.slice af 0 cf)).setCell ⟨cB, 13, none⟩ (.slice ap 0 cp)) 128 #[.int .i64 x, .int .i64 y]
    rw [hsz] at h1
    exact h1.heap e1
  have hne : ∀ b, b = cB → T b = 1 := fun b e => by rw [e]; exact h.rl.tc
  refine ⟨T', ⟨⟨hb, ?_, ?_, ?_, ?_, ?_, ?_, ?_, ?_, ?_⟩, ?_, ?_, ?_, ?_, ?_, ?_⟩, ⟨hp, if_pos rfl⟩, hk.mono (fun k _ e => hne k e), hold⟩
  · obtain ⟨g, r, h1⟩ := h.rl.bio
    exact ⟨g, r, h1.kept hk (fun b e hF => by have := h.rl.F hF; have := hne b e; omega) (fun hn b o e e2 => by have := h.rl.src hn b o e; have := hne b e2; omega)⟩
  · rw [hold cB hcs]; exact h.rl.tc
  · rw [hold _ (hlt _ (by rw [h.rl.tI]; decide))]; exact h.rl.tI
  · rw [hold _ (hlt _ (by rw [h.rl.tB]; decide))]; exact h.rl.tB
  · rw [hold _ (hlt _ (by rw [h.rl.tR]; decide))]; exact h.rl.tR
  · obtain ⟨k, xs, k1⟩ := h.rl.own
    exact ⟨k, xs, ownsRow_kp k1 hk (fun b e hf => by have := h.rl.traw b e; have := hne b hf; omega)⟩
  · intro b e
    obtain ⟨k, xs, k1⟩ := h.rl.own
    rw [hold b (own_lt k1 e)]; exact h.rl.traw b e
  · intro b hb2
    rw [hsz2]
    by_cases hc : b = w.heap.size
    · omega
    · have h6 : T' b = T b := if_neg hc
      rw [h6] at hb2
      have := hlt b hb2
      omega
  · intro hn b o e
    have h7 := h.rl.src hn b o e
    have hbs : b < w.heap.size := by
      obtain ⟨g, r, h1⟩ := h.rl.bio
      obtain ⟨wp, i, err, lb, lr, pr, k1, _⟩ := h1.ex
      obtain ⟨b2, o2, k2, _, k3, _⟩ := k1.ok.src hn
      rw [e] at k2
      cases k2
      exact k3
    rw [hold b hbs]; exact h7
  · exact own_zero (ownsRow_kp h.orec hk (fun b e hf => by have := h.trec b e; have := hne b hf; omega))
  · exact own_zero (ownsRow_kp h.ofi hk (fun b e hf => by have := h.tfi b e; have := hne b hf; omega))
  · exact own_zero (ownsRow_kp h.ofp hk (fun b e hf => by have := h.tfp b e; have := hne b hf; omega))
  · intro b e
    have e' : Value.ownBlock (.slice ar R.length cr) = some b := by cases ar <;> exact e
    rw [hold b (own_lt h.orec e')]; exact h.trec b e'
  · intro b e
    have e' : Value.ownBlock (.slice af ix.length cf) = some b := by cases af <;> exact e
    rw [hold b (own_lt h.ofi e')]; exact h.tfi b e'
  · intro b e
    have e' : Value.ownBlock (.slice ap ps.length cp) = some b := by cases ap <;> exact e
    rw [hold b (own_lt h.ofp e')]; exact h.tfp b e'
end
end Go.Proofs.Qxb6615582aGreatFmt
