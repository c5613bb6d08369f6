import Derived.Test.Qxb6615582aGreatFmtWalksF
namespace Go.Proofs.Qxb6615582aGreatFmt
open Go.RowKit

def ics (l : List Nat) : List Value := l.map fun (k : Nat) => .int .i64 k
def pcs (l : List (Int × Int)) : List Value := l.flatMap fun p => [.int .i64 p.1, .int .i64 p.2]
theorem ics_length (l : List Nat) : (ics l).length = l.length := by simp [ics]
theorem pcs_length : ∀ (l : List (Int × Int)), (pcs l).length = l.length * 2
  | [] => rfl
  | p :: l => by
    have := pcs_length l
    simp only [pcs, List.flatMap_cons, List.length_append, List.length_cons, List.length_nil] at this ⊢
    omega
theorem ics_app (a b : List Nat) : ics (a ++ b) = ics a ++ ics b := by simp [ics]
theorem pcs_app (a b : List (Int × Int)) : pcs (a ++ b) = pcs a ++ pcs b := by simp [pcs]
theorem bcs_app (a b : Bs) : bcs (a ++ b) = bcs a ++ bcs b := by simp [bcs]
theorem Tryz.info3 : (Tryz.prog.info? 3).map (fun i => (i.zero, i.size, i.bytes)) = some (some (.int .i64 0), 1, 8) := by kernel_rfl
theorem Tryz.info128 : (Tryz.prog.info? 128).map (fun i => (i.zero, i.size, i.bytes)) = some (some (.agg #[.int .i64 0, .int .i64 0]), 2, 16) := by kernel_rfl

/-- The reader with its three rows: tags 6 recordBuffer, 7 fieldIndexes, 8 fieldPositions. -/
structure Rr (w : World) (T : Nat → Nat) (A : RA) (cB : Nat) (ae : Addr) (U : Bs) (n : Nat) (off : Int) (rb rec fi fp : Value) (R : Bs) (ix : List Nat) (ps : List (Int × Int)) : Prop where
  rl : Rl w T A cB ae U n off rb rec fi fp
  orec : w.ownsRow 0 5 1 rec R.length (bcs R)
  ofi : w.ownsRow 0 3 1 fi ix.length (ics ix)
  ofp : w.ownsRow 0 128 2 fp ps.length (pcs ps)
  trec : ∀ b, rec.ownBlock = some b → T b = 6
  tfi : ∀ b, fi.ownBlock = some b → T b = 7
  tfp : ∀ b, fp.ownBlock = some b → T b = 8
section
variable {w w' : World} {T : Nat → Nat} {A : RA} {cB : Nat} {ae : Addr} {U : Bs} {n : Nat} {off : Int} {rb rec fi fp : Value} {R : Bs} {ix : List Nat} {ps : List (Int × Int)}
theorem Rl.keptF (h : Rl w T A cB ae U n off rb rec fi fp) {F : Nat → Prop} (hk : Kp F w w') (hF : ∀ k, F k → T k = 0 ∨ 6 ≤ T k) (hs : A.D ≠ [] → ∀ b o, A.ao = some ⟨b, o, none⟩ → ¬ F b) : Rl w' T A cB ae U n off rb rec fi fp :=
  ⟨h.blk.kept hk (fun e => by have := hF _ e; rw [h.tc] at this; omega), by
    obtain ⟨g, r, h1⟩ := h.bio
    exact ⟨g, r, h1.kept hk (fun k e hA => by have := h.F hA; have := hF _ e; omega) hs⟩, h.tc, h.tI, h.tB, h.tR, by
    obtain ⟨k, xs, h1⟩ := h.own
    exact ⟨k, xs, ownsRow_kp h1 hk (fun b e hf => by have := h.traw b e; have := hF _ hf; omega)⟩, h.traw, fun k hk2 => Nat.lt_of_lt_of_le (h.lt k hk2) hk.size, h.src⟩
/-- Old memory outside the reader, or its own boxes (tags from 9 on), may turn. -/
theorem Rr.kept (h : Rr w T A cB ae U n off rb rec fi fp R ix ps) {F : Nat → Prop} (hk : Kp F w w') (hF : ∀ k, F k → 9 ≤ T k) : Rr w' T A cB ae U n off rb rec fi fp R ix ps :=
  ⟨h.rl.keptF hk (fun k e => by have := hF k e; omega) (fun hn b o e hf => by have := h.rl.src hn b o e; have := hF b hf; omega),
   ownsRow_kp h.orec hk (fun b e hf => by have := h.trec b e; have := hF b hf; omega),
   ownsRow_kp h.ofi hk (fun b e hf => by have := h.tfi b e; have := hF b hf; omega),
   ownsRow_kp h.ofp hk (fun b e hf => by have := h.tfp b e; have := hF b hf; omega), h.trec, h.tfi, h.tfp⟩
/-- A line is read: the three rows stay. -/
theorem Rr.line {T' : Nat → Nat} {U' : Bs} {n' : Nat} {off' : Int} {rb' : Value} (h : Rr w T A cB ae U n off rb rec fi fp R ix ps) (hl : Rl w' T' A cB ae U' n' off' rb' rec fi fp) (hk : Kp (Fl T) w w') (he : Ext w T T') : Rr w' T' A cB ae U' n' off' rb' rec fi fp R ix ps :=
  ⟨hl, ownsRow_kp h.orec hk (fun b e hf => by have := h.trec b e; unfold Fl at hf; omega),
   ownsRow_kp h.ofi hk (fun b e hf => by have := h.tfi b e; unfold Fl at hf; omega),
   ownsRow_kp h.ofp hk (fun b e hf => by have := h.tfp b e; unfold Fl at hf; omega),
   fun b e => by rw [he.old b (own_lt h.orec e)]; exact h.trec b e,
   fun b e => by rw [he.old b (own_lt h.ofi e)]; exact h.tfi b e,
   fun b e => by rw [he.old b (own_lt h.ofp e)]; exact h.tfp b e⟩
end
/-- The tags below the heap's end stay. -/
def Old (w : World) (T T' : Nat → Nat) : Prop := ∀ k, k < w.heap.size → T' k = T k
/-- The reader's blocks. -/
def Fa (T : Nat → Nat) (k : Nat) : Prop := T k ≠ 0
theorem Old.trans {w w1 : World} {T T1 T2 : Nat → Nat} (h : Old w T T1) (k : Old w1 T1 T2) (hs : w.heap.size ≤ w1.heap.size) : Old w T T2 := fun i hi => (k i (by omega)).trans (h i hi)
theorem Kp.old {w w1 w2 : World} {T T1 : Nat → Nat} (h : Kp (Fa T) w w1) (he : Old w T T1) (k : Kp (Fa T1) w1 w2) : Kp (Fa T) w w2 :=
  h.trans (k.mono (fun i _ hf => by
    rcases Nat.lt_or_ge i w.heap.size with h1 | h1
    · unfold Fa at hf; rw [he i h1] at hf; exact .inl hf
    · exact .inr h1))
theorem Kp.fl {w w1 : World} {T : Nat → Nat} (h : Kp (Fl T) w w1) : Kp (Fa T) w w1 := h.mono (fun k _ e => by unfold Fl at e; unfold Fa; omega)

theorem Rr.grow_rec {w : World} {T : Nat → Nat} {A : RA} {cB : Nat} {ae : Addr} {U : Bs} {n : Nat} {off : Int} {rb rec fi fp : Value} {R : Bs} {ix : List Nat} {ps : List (Int × Int)} (h : Rr w T A cB ae U n off rb rec fi fp R ix ps) {ob : Option Nat} {rec' : Value} {w2 : World} {R' : Bs} (h0 : ob = rec.ownBlock) (hown : w2.ownsRow 0 5 1 rec' R'.length (bcs R')) (hg : w.grownBy w2 ob) (hat : rec'.ownBlock = ob ∨ rec'.ownBlock = some w.heap.size)
    (wx : World) (e1 : wx.heap = (w2.setCell ⟨cB, 11, none⟩ rec').heap) (e2 : wx.os = w2.os) (e3 : wx.tape = w2.tape) (e4 : wx.output = w2.output) :
    ∃ T', Rr wx T' A cB ae U n off rb rec' fi fp R' ix ps ∧ Kp (fun k => T k = 1 ∨ T k = 6) w wx ∧ Old w T T' ∧ (∀ k, w.heap.size ≤ k → T' k = 0 ∨ T' k = 6) := by
  subst h0
  let T' : Nat → Nat := fun k => if k = w.heap.size ∧ rec'.ownBlock = some w.heap.size then 6 else T k
  have hold : ∀ k, k < w.heap.size → T' k = T k := fun k hk => if_neg (by omega)
  have hlt : ∀ k, T k ≠ 0 → k < w.heap.size := h.rl.lt
  have hk2 : Kp (fun k => rec.ownBlock = some k) w w2 := Kp.grown hg (fun k e => e)
  have hcs : cB < w.heap.size := h.rl.blk.lt
  have hk : Kp (fun k => rec.ownBlock = some k ∨ k = cB) w wx := Kp.heap ((hk2.mono (fun k _ e => .inl e)).setCell (p := ⟨cB, 11, none⟩) (.inl (.inr rfl)) rec') e1 e2 e3 e4
  have hnc : ¬ rec.ownBlock = some cB := fun e => by have := h.trec cB e; rw [h.rl.tc] at this; omega
  have hrc : rec'.ownBlock ≠ some cB := by
    intro e
    rcases hat with e2 | e2
    · exact hnc (e2.symm.trans e)
    · rw [e2] at e; have := Option.some.inj e; omega
  have hb : Blk wx cB 73 (cc A.bI n off rb rec' fi fp) := by
    have h1 := ((h.rl.blk.kept hk2 hnc).store 11 rec').heap e1
    unfold cc at h1 ⊢
    simpa using h1
  have hFt : ∀ b, rec.ownBlock = some b ∨ b = cB → T b = 6 ∨ T b = 1 := fun b e => by
    rcases e with e | e
    · exact .inl (h.trec b e)
    · rw [e]; exact .inr h.rl.tc
  have hown2 : wx.ownsRow 0 5 1 rec' R'.length (bcs R') := by
    have h1 := ownsRow_setCell_other hown (a := ⟨cB, 11, none⟩) hrc rec'
    refine ⟨h1.1, ?_⟩
    rcases h1.2 with h2 | ⟨g, cap, cur, e, h3, h4, h5⟩
    · exact .inl h2
    · exact .inr ⟨g, cap, cur, e, h3, by rw [e1]; exact h4, h5⟩
  have htag : ∀ b, rec'.ownBlock = some b → T' b = 6 := by
    intro b hb2
    rcases hat with e | e
    · rw [e] at hb2
      have h5 := h.trec b hb2
      rw [hold b (hlt b (by omega))]; exact h5
    · rw [e] at hb2
      have : b = w.heap.size := (Option.some.inj hb2).symm
      show (if _ then _ else _) = _
      rw [if_pos ⟨this, e⟩]
  have hnew : ∀ k, w.heap.size ≤ k → T' k = 0 ∨ T' k = 6 := by
    intro b hb2
    by_cases hc : b = w.heap.size ∧ rec'.ownBlock = some w.heap.size
    · exact .inr (if_pos hc)
    · have h6 : T' b = T b := if_neg hc
      rw [h6]
      left
      rcases Nat.eq_zero_or_pos (T b) with e | e
      · exact e
      · have := hlt b (by omega); omega
  have hrl : Rl wx T' A cB ae U n off rb rec' fi fp := by
    refine ⟨hb, ?_, ?_, ?_, ?_, ?_, ?_, ?_, ?_, ?_⟩
    · obtain ⟨g, r, h1⟩ := h.rl.bio
      exact ⟨g, r, h1.kept hk (fun b e hF => by have := h.rl.F hF; have := hFt b e; omega) (fun hn b o e e2 => by have := h.rl.src hn b o e; have := hFt b e2; omega)⟩
    · rw [hold cB hcs]; exact h.rl.tc
    · rw [hold _ (hlt _ (by rw [h.rl.tI]; decide))]; exact h.rl.tI
    · rw [hold _ (hlt _ (by rw [h.rl.tB]; decide))]; exact h.rl.tB
    · rw [hold _ (hlt _ (by rw [h.rl.tR]; decide))]; exact h.rl.tR
    · obtain ⟨k, xs, k1⟩ := h.rl.own
      exact ⟨k, xs, ownsRow_kp k1 hk (fun b e hf => by have := h.rl.traw b e; have := hFt b hf; omega)⟩
    · intro b e
      obtain ⟨k, xs, k1⟩ := h.rl.own
      rw [hold b (own_lt k1 e)]; exact h.rl.traw b e
    · intro b hb2
      have hsz : w.heap.size ≤ wx.heap.size := hk.size
      by_cases hc : b = w.heap.size ∧ rec'.ownBlock = some w.heap.size
      · rw [hc.1]; exact own_lt hown2 hc.2
      · have h6 : T' b = T b := if_neg hc
        rw [h6] at hb2
        have := hlt b hb2
        omega
    · intro hn b o e
      have h7 := h.rl.src hn b o e
      have hbs : b < w.heap.size := by
        obtain ⟨g, r, h1⟩ := h.rl.bio
        obtain ⟨wp, i, err, lb, lr, pr, k1, _⟩ := h1.ex
        obtain ⟨b2, o2, k2, _, k3, _⟩ := k1.ok.src hn
        rw [e] at k2
        cases k2
        exact k3
      rw [hold b hbs]; exact h7
  exact ⟨T', ⟨hrl, hown2, ownsRow_kp h.ofi hk (fun b e hf => by have := h.tfi b e; have := hFt b hf; omega), ownsRow_kp h.ofp hk (fun b e hf => by have := h.tfp b e; have := hFt b hf; omega), htag, fun b e => by rw [hold b (own_lt h.ofi e)]; exact h.tfi b e, fun b e => by rw [hold b (own_lt h.ofp e)]; exact h.tfp b e⟩, hk.mono (fun b _ e => by have := hFt b e; omega), hold, hnew⟩

theorem Rr.grow_fi {w : World} {T : Nat → Nat} {A : RA} {cB : Nat} {ae : Addr} {U : Bs} {n : Nat} {off : Int} {rb rec fi fp : Value} {R : Bs} {ix : List Nat} {ps : List (Int × Int)} (h : Rr w T A cB ae U n off rb rec fi fp R ix ps) {ob : Option Nat} {fi' : Value} {w2 : World} {ix' : List Nat} (h0 : ob = fi.ownBlock) (hown : w2.ownsRow 0 3 1 fi' ix'.length (ics ix')) (hg : w.grownBy w2 ob) (hat : fi'.ownBlock = ob ∨ fi'.ownBlock = some w.heap.size)
    (wx : World) (e1 : wx.heap = (w2.setCell ⟨cB, 12, none⟩ fi').heap) (e2 : wx.os = w2.os) (e3 : wx.tape = w2.tape) (e4 : wx.output = w2.output) :
    ∃ T', Rr wx T' A cB ae U n off rb rec fi' fp R ix' ps ∧ Kp (fun k => T k = 1 ∨ T k = 7) w wx ∧ Old w T T' ∧ (∀ k, w.heap.size ≤ k → T' k = 0 ∨ T' k = 7) := by
  subst h0
  let T' : Nat → Nat := fun k => if k = w.heap.size ∧ fi'.ownBlock = some w.heap.size then 7 else T k
  have hold : ∀ k, k < w.heap.size → T' k = T k := fun k hk => if_neg (by omega)
  have hlt : ∀ k, T k ≠ 0 → k < w.heap.size := h.rl.lt
  have hk2 : Kp (fun k => fi.ownBlock = some k) w w2 := Kp.grown hg (fun k e => e)
  have hcs : cB < w.heap.size := h.rl.blk.lt
  have hk : Kp (fun k => fi.ownBlock = some k ∨ k = cB) w wx := Kp.heap ((hk2.mono (fun k _ e => .inl e)).setCell (p := ⟨cB, 12, none⟩) (.inl (.inr rfl)) fi') e1 e2 e3 e4
  have hnc : ¬ fi.ownBlock = some cB := fun e => by have := h.tfi cB e; rw [h.rl.tc] at this; omega
  have hrc : fi'.ownBlock ≠ some cB := by
    intro e
    rcases hat with e2 | e2
    · exact hnc (e2.symm.trans e)
    · rw [e2] at e; have := Option.some.inj e; omega
  have hb : Blk wx cB 73 (cc A.bI n off rb rec fi' fp) := by
    have h1 := ((h.rl.blk.kept hk2 hnc).store 12 fi').heap e1
    unfold cc at h1 ⊢
    simpa using h1
  have hFt : ∀ b, fi.ownBlock = some b ∨ b = cB → T b = 7 ∨ T b = 1 := fun b e => by
    rcases e with e | e
    · exact .inl (h.tfi b e)
    · rw [e]; exact .inr h.rl.tc
  have hown2 : wx.ownsRow 0 3 1 fi' ix'.length (ics ix') := by
    have h1 := ownsRow_setCell_other hown (a := ⟨cB, 12, none⟩) hrc fi'
    refine ⟨h1.1, ?_⟩
    rcases h1.2 with h2 | ⟨g, cap, cur, e, h3, h4, h5⟩
    · exact .inl h2
    · exact .inr ⟨g, cap, cur, e, h3, by rw [e1]; exact h4, h5⟩
  have htag : ∀ b, fi'.ownBlock = some b → T' b = 7 := by
    intro b hb2
    rcases hat with e | e
    · rw [e] at hb2
      have h5 := h.tfi b hb2
      rw [hold b (hlt b (by omega))]; exact h5
    · rw [e] at hb2
      have : b = w.heap.size := (Option.some.inj hb2).symm
      show (if _ then _ else _) = _
      rw [if_pos ⟨this, e⟩]
  have hnew : ∀ k, w.heap.size ≤ k → T' k = 0 ∨ T' k = 7 := by
    intro b hb2
    by_cases hc : b = w.heap.size ∧ fi'.ownBlock = some w.heap.size
    · exact .inr (if_pos hc)
    · have h6 : T' b = T b := if_neg hc
      rw [h6]
      left
      rcases Nat.eq_zero_or_pos (T b) with e | e
      · exact e
      · have := hlt b (by omega); omega
  have hrl : Rl wx T' A cB ae U n off rb rec fi' fp := by
    refine ⟨hb, ?_, ?_, ?_, ?_, ?_, ?_, ?_, ?_, ?_⟩
    · obtain ⟨g, r, h1⟩ := h.rl.bio
      exact ⟨g, r, h1.kept hk (fun b e hF => by have := h.rl.F hF; have := hFt b e; omega) (fun hn b o e e2 => by have := h.rl.src hn b o e; have := hFt b e2; omega)⟩
    · rw [hold cB hcs]; exact h.rl.tc
    · rw [hold _ (hlt _ (by rw [h.rl.tI]; decide))]; exact h.rl.tI
    · rw [hold _ (hlt _ (by rw [h.rl.tB]; decide))]; exact h.rl.tB
    · rw [hold _ (hlt _ (by rw [h.rl.tR]; decide))]; exact h.rl.tR
    · obtain ⟨k, xs, k1⟩ := h.rl.own
      exact ⟨k, xs, ownsRow_kp k1 hk (fun b e hf => by have := h.rl.traw b e; have := hFt b hf; omega)⟩
    · intro b e
      obtain ⟨k, xs, k1⟩ := h.rl.own
      rw [hold b (own_lt k1 e)]; exact h.rl.traw b e
    · intro b hb2
      have hsz : w.heap.size ≤ wx.heap.size := hk.size
      by_cases hc : b = w.heap.size ∧ fi'.ownBlock = some w.heap.size
      · rw [hc.1]; exact own_lt hown2 hc.2
      · have h6 : T' b = T b := if_neg hc
        rw [h6] at hb2
        have := hlt b hb2
        omega
    · intro hn b o e
      have h7 := h.rl.src hn b o e
      have hbs : b < w.heap.size := by
        obtain ⟨g, r, h1⟩ := h.rl.bio
        obtain ⟨wp, i, err, lb, lr, pr, k1, _⟩ := h1.ex
        obtain ⟨b2, o2, k2, _, k3, _⟩ := k1.ok.src hn
        rw [e] at k2
        cases k2
        exact k3
      rw [hold b hbs]; exact h7
  exact ⟨T', ⟨hrl, ownsRow_kp h.orec hk (fun b e hf => by have := h.trec b e; have := hFt b hf; omega), hown2, ownsRow_kp h.ofp hk (fun b e hf => by have := h.tfp b e; have := hFt b hf; omega), fun b e => by rw [hold b (own_lt h.orec e)]; exact h.trec b e, htag, fun b e => by rw [hold b (own_lt h.ofp e)]; exact h.tfp b e⟩, hk.mono (fun b _ e => by have := hFt b e; omega), hold, hnew⟩

theorem Rr.grow_fp {w : World} {T : Nat → Nat} {A : RA} {cB : Nat} {ae : Addr} {U : Bs} {n : Nat} {off : Int} {rb rec fi fp : Value} {R : Bs} {ix : List Nat} {ps : List (Int × Int)} (h : Rr w T A cB ae U n off rb rec fi fp R ix ps) {ob : Option Nat} {fp' : Value} {w2 : World} {ps' : List (Int × Int)} (h0 : ob = fp.ownBlock) (hown : w2.ownsRow 0 128 2 fp' ps'.length (pcs ps')) (hg : w.grownBy w2 ob) (hat : fp'.ownBlock = ob ∨ fp'.ownBlock = some w.heap.size)
    (wx : World) (e1 : wx.heap = (w2.setCell ⟨cB, 13, none⟩ fp').heap) (e2 : wx.os = w2.os) (e3 : wx.tape = w2.tape) (e4 : wx.output = w2.output) :
    ∃ T', Rr wx T' A cB ae U n off rb rec fi fp' R ix ps' ∧ Kp (fun k => T k = 1 ∨ T k = 8) w wx ∧ Old w T T' ∧ (∀ k, w.heap.size ≤ k → T' k = 0 ∨ T' k = 8) := by
  subst h0
  let T' : Nat → Nat := fun k => if k = w.heap.size ∧ fp'.ownBlock = some w.heap.size then 8 else T k
  have hold : ∀ k, k < w.heap.size → T' k = T k := fun k hk => if_neg (by omega)
  have hlt : ∀ k, T k ≠ 0 → k < w.heap.size := h.rl.lt
  have hk2 : Kp (fun k => fp.ownBlock = some k) w w2 := Kp.grown hg (fun k e => e)
  have hcs : cB < w.heap.size := h.rl.blk.lt
  have hk : Kp (fun k => fp.ownBlock = some k ∨ k = cB) w wx := Kp.heap ((hk2.mono (fun k _ e => .inl e)).setCell (p := ⟨cB, 13, none⟩) (.inl (.inr rfl)) fp') e1 e2 e3 e4
  have hnc : ¬ fp.ownBlock = some cB := fun e => by have := h.tfp cB e; rw [h.rl.tc] at this; omega
  have hrc : fp'.ownBlock ≠ some cB := by
    intro e
    rcases hat with e2 | e2
    · exact hnc (e2.symm.trans e)
    · rw [e2] at e; have := Option.some.inj e; omega
  have hb : Blk wx cB 73 (cc A.bI n off rb rec fi fp') := by
    have h1 := ((h.rl.blk.kept hk2 hnc).store 13 fp').heap e1
    unfold cc at h1 ⊢
    simpa using h1
  have hFt : ∀ b, fp.ownBlock = some b ∨ b = cB → T b = 8 ∨ T b = 1 := fun b e => by
    rcases e with e | e
    · exact .inl (h.tfp b e)
    · rw [e]; exact .inr h.rl.tc
  have hown2 : wx.ownsRow 0 128 2 fp' ps'.length (pcs ps') := by
    have h1 := ownsRow_setCell_other hown (a := ⟨cB, 13, none⟩) hrc fp'
    refine ⟨h1.1, ?_⟩
    rcases h1.2 with h2 | ⟨g, cap, cur, e, h3, h4, h5⟩
    · exact .inl h2
    · exact .inr ⟨g, cap, cur, e, h3, by rw [e1]; exact h4, h5⟩
  have htag : ∀ b, fp'.ownBlock = some b → T' b = 8 := by
    intro b hb2
    rcases hat with e | e
    · rw [e] at hb2
      have h5 := h.tfp b hb2
      rw [hold b (hlt b (by omega))]; exact h5
    · rw [e] at hb2
      have : b = w.heap.size := (Option.some.inj hb2).symm
      show (if _ then _ else _) = _
      rw [if_pos ⟨this, e⟩]
  have hnew : ∀ k, w.heap.size ≤ k → T' k = 0 ∨ T' k = 8 := by
    intro b hb2
    by_cases hc : b = w.heap.size ∧ fp'.ownBlock = some w.heap.size
    · exact .inr (if_pos hc)
    · have h6 : T' b = T b := if_neg hc
      rw [h6]
      left
      rcases Nat.eq_zero_or_pos (T b) with e | e
      · exact e
      · have := hlt b (by omega); omega
  have hrl : Rl wx T' A cB ae U n off rb rec fi fp' := by
    refine ⟨hb, ?_, ?_, ?_, ?_, ?_, ?_, ?_, ?_, ?_⟩
    · obtain ⟨g, r, h1⟩ := h.rl.bio
      exact ⟨g, r, h1.kept hk (fun b e hF => by have := h.rl.F hF; have := hFt b e; omega) (fun hn b o e e2 => by have := h.rl.src hn b o e; have := hFt b e2; omega)⟩
    · rw [hold cB hcs]; exact h.rl.tc
    · rw [hold _ (hlt _ (by rw [h.rl.tI]; decide))]; exact h.rl.tI
    · rw [hold _ (hlt _ (by rw [h.rl.tB]; decide))]; exact h.rl.tB
    · rw [hold _ (hlt _ (by rw [h.rl.tR]; decide))]; exact h.rl.tR
    · obtain ⟨k, xs, k1⟩ := h.rl.own
      exact ⟨k, xs, ownsRow_kp k1 hk (fun b e hf => by have := h.rl.traw b e; have := hFt b hf; omega)⟩
    · intro b e
      obtain ⟨k, xs, k1⟩ := h.rl.own
      rw [hold b (own_lt k1 e)]; exact h.rl.traw b e
    · intro b hb2
      have hsz : w.heap.size ≤ wx.heap.size := hk.size
      by_cases hc : b = w.heap.size ∧ fp'.ownBlock = some w.heap.size
      · rw [hc.1]; exact own_lt hown2 hc.2
      · have h6 : T' b = T b := if_neg hc
        rw [h6] at hb2
        have := hlt b hb2
        omega
    · intro hn b o e
      have h7 := h.rl.src hn b o e
      have hbs : b < w.heap.size := by
        obtain ⟨g, r, h1⟩ := h.rl.bio
        obtain ⟨wp, i, err, lb, lr, pr, k1, _⟩ := h1.ex
        obtain ⟨b2, o2, k2, _, k3, _⟩ := k1.ok.src hn
        rw [e] at k2
        cases k2
        exact k3
      rw [hold b hbs]; exact h7
  exact ⟨T', ⟨hrl, ownsRow_kp h.orec hk (fun b e hf => by have := h.trec b e; have := hFt b hf; omega), ownsRow_kp h.ofi hk (fun b e hf => by have := h.tfi b e; have := hFt b hf; omega), hown2, fun b e => by rw [hold b (own_lt h.orec e)]; exact h.trec b e, fun b e => by rw [hold b (own_lt h.ofi e)]; exact h.tfi b e, htag⟩, hk.mono (fun b _ e => by have := hFt b e; omega), hold, hnew⟩
end Go.Proofs.Qxb6615582aGreatFmt
