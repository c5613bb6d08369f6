import Derived.Test.Qxb6615582aGreatFmtWalksD
import Derived.Deep.AppendLies
namespace Go.Proofs.Qxb6615582aGreatFmt
open Go.RowKit

/-- The csv.Reader's cells. -/
def cc (bI : Nat) (n : Nat) (off : Int) (raw rec fi fp : Value) : Array Value :=
  #[.int .i32 44, .int .i32 0, .int .i64 (-1), .bool false, .bool false, .bool false, .bool false, .pointer (some ⟨bI, 0, none⟩), .int .i64 n, .int .i64 off, raw, rec, fi, fp, .slice none 0 0]

/-- A reader before a line: its blocks bear tags: 1 the csv.Reader, 2 bufio, 3 its buffer, 4 the bytes.Reader, 5 rawBuffer. -/
structure Rl (w : World) (T : Nat → Nat) (A : RA) (cB : Nat) (ae : Addr) (U : Bs) (n : Nat) (off : Int) (raw rec fi fp : Value) : Prop where
  blk : Blk w cB 73 (cc A.bI n off raw rec fi fp)
  bio : ∃ g r, BioU w A ae U g r
  tc : T cB = 1
  tI : T A.bI = 2
  tB : T A.bB = 3
  tR : T A.rB = 4
  own : ∃ k xs, w.ownsRow 0 5 1 raw k xs
  traw : ∀ b, raw.ownBlock = some b → T b = 5
  lt : ∀ k, T k ≠ 0 → k < w.heap.size
  src : A.D ≠ [] → ∀ b o, A.ao = some ⟨b, o, none⟩ → T b = 0
/-- The blocks that reading a line may write. -/
def Fl (T : Nat → Nat) (k : Nat) : Prop := 1 ≤ T k ∧ T k ≤ 5
theorem Rl.F {w : World} {T : Nat → Nat} {A : RA} {cB : Nat} {ae : Addr} {U : Bs} {n : Nat} {off : Int} {raw rec fi fp : Value} (h : Rl w T A cB ae U n off raw rec fi fp) {k : Nat} (hk : A.F k) : 2 ≤ T k ∧ T k ≤ 4 := by
  rcases hk with e | e | e
  · rw [e, h.tI]; omega
  · rw [e, h.tB]; omega
  · rw [e, h.tR]; omega

theorem ownsRow_kp {w w' : World} {e : TypeId} {size : Nat} {v : Value} {n : Nat} {xs : List Value} {F : Nat → Prop} (h : w.ownsRow 0 e size v n xs) (hk : Kp F w w') (hn : ∀ b, v.ownBlock = some b → ¬ F b) : w'.ownsRow 0 e size v n xs := by
  refine ⟨h.1, ?_⟩
  rcases h.2 with h2 | ⟨g, cap, cur, rfl, h0, hg, h3⟩
  · exact .inl h2
  · exact .inr ⟨g, cap, cur, rfl, h0, by rw [hk.block g (Array.getElem?_eq_some_iff.1 hg).1 (hn g rfl)]; exact hg, h3⟩
theorem BioU.kept {w w' : World} {A : RA} {ae : Addr} {U g : Bs} {r : Nat} (h : BioU w A ae U g r) {F : Nat → Prop} (hk : Kp F w w') (hF : ∀ k, F k → ¬ A.F k) (hs : A.D ≠ [] → ∀ b o, A.ao = some ⟨b, o, none⟩ → ¬ F b) : BioU w' A ae U g r := by
  obtain ⟨wp, i, err, lb, lr, pr, h1, h2, h3⟩ := h.ex
  refine ⟨wp, i, err, lb, lr, pr, ⟨h1.bio.kept hk (fun e => hF _ e (.inl rfl)), h1.buf.kept hk (fun e => hF _ e (.inr (.inl rfl))), h1.rd.kept hk (fun e => hF _ e (.inr (.inr rfl))), h1.gl, h1.rw, h1.wl, h1.il, ⟨h1.ok.ib, h1.ok.ir, h1.ok.br, h1.ok.len, h1.ok.cp, h1.ok.cp2, fun hn => ?_⟩⟩, h2, h3⟩
  obtain ⟨b, o, k1, k2, k3, k4⟩ := h1.ok.src hn
  exact ⟨b, o, k1, k2, Nat.lt_of_lt_of_le k3 hk.size, fun j hj => by rw [hk.cell (p := ⟨b, o + j, none⟩) k3 (hs hn b o k1)]; exact k4 j hj⟩
/-- The buffer patched ahead of what is unread. -/
theorem BioU.patch {w : World} {A : RA} {ae : Addr} {U g : Bs} {r : Nat} (h : BioU w A ae U g r) {j : Nat} (hj : j < r) (c : UInt8) : BioU (w.setCell ⟨A.bB, j, none⟩ (.int .u8 c.toNat)) A ae U (g.set j c) r := by
  obtain ⟨wp, i, err, lb, lr, pr, h1, h2, h3⟩ := h.ex
  have hk : Kp (fun k => k = A.bB) w (w.setCell ⟨A.bB, j, none⟩ (.int .u8 c.toNat)) := (Kp.refl (fun k => k = A.bB) w).setCell (p := ⟨A.bB, j, none⟩) (.inl rfl) _
  refine ⟨wp, i, err, lb, lr, pr, ⟨h1.bio.kept hk h1.ok.ib, ?_, h1.rd.kept hk h1.ok.br.symm, by rw [List.length_set]; exact h1.gl, h1.rw, h1.wl, h1.il, h1.ok.later hk (fun _ _ e => .inr (.inl e))⟩, ?_, h3⟩
  · have h4 := h1.buf.store j (.int .u8 c.toNat)
    have h5 : (bcs g).toArray.setIfInBounds j (.int .u8 c.toNat) = (bcs (g.set j c)).toArray := by
      unfold bcs
      rw [List.map_set]
      simp
    rw [h5] at h4
    exact h4
  · rw [← h2]
    unfold unr
    rw [List.take_set, List.drop_set]
    simp [hj]

/-- A line is read: it lies in the buffer, or in rawBuffer. -/
structure Mid (w : World) (T : Nat → Nat) (A : RA) (cB : Nat) (ae : Addr) (U : Bs) (n : Nat) (off : Int) (raw rec fi fp : Value) (L : Bs) (b o cap : Nat) : Prop where
  rl : Rl w T A cB ae U n off raw rec fi fp
  le : L.length ≤ cap
  cpl : cap ≤ 9223372036854775807
  at_ : (b = A.bB ∧ ∃ g r, BioU w A ae U g r ∧ o + L.length ≤ r ∧ (g.drop o).take L.length = L) ∨ (o = 0 ∧ raw = .slice (some ⟨b, 0, none⟩) L.length cap ∧ w.ownsRow 0 5 1 raw L.length (bcs L))
section
variable {w : World} {T : Nat → Nat} {A : RA} {cB : Nat} {ae : Addr} {U : Bs} {n : Nat} {off : Int} {raw rec fi fp : Value} {L : Bs} {b o cap : Nat}
theorem Mid.tag (h : Mid w T A cB ae U n off raw rec fi fp L b o cap) : T b = 3 ∨ T b = 5 := by
  rcases h.at_ with ⟨rfl, _⟩ | ⟨_, e, _⟩
  · exact .inl h.rl.tB
  · exact .inr (h.rl.traw b (by rw [e]; rfl))
theorem Mid.cell (h : Mid w T A cB ae U n off raw rec fi fp L b o cap) {j : Nat} (hj : j < L.length) : w.cell? ⟨b, o + j, none⟩ = some (.int .u8 L[j].toNat) := by
  rcases h.at_ with ⟨rfl, g, r, h1, h2, h3⟩ | ⟨rfl, e, h1⟩
  · obtain ⟨wp, i, err, lb, lr, pr, k1, k2, k3⟩ := h1.ex
    have := k1.gl
    have := k1.rw
    have := k1.wl
    rw [k1.buf.byte (j := o + j) (by omega)]
    have : L[j]? = some (g[o + j]'(by omega)) := by
      have h4 : L[j]? = ((g.drop o).take L.length)[j]? := by rw [h3]
      rw [h4, List.getElem?_take_of_lt hj, List.getElem?_drop]
      exact List.getElem?_eq_getElem _
    rw [List.getElem?_eq_getElem hj] at this
    rw [Option.some.inj this]
  · rw [e] at h1
    have h2 := h1.cellAt j (by omega)
    rw [Nat.zero_add, h2, bcs_at L hj]
theorem Mid.free (h : Mid w T A cB ae U n off raw rec fi fp L b o cap) (j : Nat) : w.frozen? ⟨b, j, none⟩ = false := by
  rcases h.at_ with ⟨rfl, g, r, h1, h2, h3⟩ | ⟨rfl, e, h1⟩
  · obtain ⟨wp, i, err, lb, lr, pr, k1, k2, k3⟩ := h1.ex
    exact k1.buf.free j
  · rw [e] at h1
    exact h1.frozenAt j
theorem Mid.lt (h : Mid w T A cB ae U n off raw rec fi fp L b o cap) : b < w.heap.size := h.rl.lt b (by rcases h.tag with e | e <;> rw [e] <;> decide)

/-- The csv.Reader's own cells turned. -/
theorem Rl.turn {w' : World} (h : Rl w T A cB ae U n off raw rec fi fp) (hk : Kp (fun k => k = cB) w w') {n' : Nat} {off' : Int} (hb : Blk w' cB 73 (cc A.bI n' off' raw rec fi fp)) : Rl w' T A cB ae U n' off' raw rec fi fp :=
  ⟨hb, by
    obtain ⟨g, r, h1⟩ := h.bio
    exact ⟨g, r, h1.kept hk (fun k e hF => by have := h.F hF; rw [e, h.tc] at this; omega) (fun hn b o e e2 => by have := h.src hn b o e; rw [e2, h.tc] at this; omega)⟩, h.tc, h.tI, h.tB, h.tR, by
    obtain ⟨k, xs, h1⟩ := h.own
    exact ⟨k, xs, ownsRow_kp h1 hk (fun b e e2 => by have := h.traw b e; rw [e2, h.tc] at this; omega)⟩, h.traw, fun k hk2 => Nat.lt_of_lt_of_le (h.lt k hk2) hk.size, h.src⟩
theorem Mid.turn {w' : World} (h : Mid w T A cB ae U n off raw rec fi fp L b o cap) (hk : Kp (fun k => k = cB) w w') {n' : Nat} {off' : Int} (hb : Blk w' cB 73 (cc A.bI n' off' raw rec fi fp)) : Mid w' T A cB ae U n' off' raw rec fi fp L b o cap :=
  ⟨h.rl.turn hk hb, h.le, h.cpl, by
    rcases h.at_ with ⟨rfl, g, r, h1, h2⟩ | ⟨rfl, e, h1⟩
    · exact .inl ⟨rfl, g, r, h1.kept hk (fun k e hF => by have := h.rl.F hF; rw [e, h.rl.tc] at this; omega) (fun hn b o e e2 => by have := h.rl.src hn b o e; rw [e2, h.rl.tc] at this; omega), h2⟩
    · exact .inr ⟨rfl, e, ownsRow_kp h1 hk (fun b e e2 => by have := h.rl.traw b e; rw [e2, h.rl.tc] at this; omega)⟩⟩
/-- The line patched. -/
theorem Mid.patch (h : Mid w T A cB ae U n off raw rec fi fp L b o cap) {j : Nat} (hj : j < L.length) (c : UInt8) : Mid (w.setCell ⟨b, o + j, none⟩ (.int .u8 c.toNat)) T A cB ae U n off raw rec fi fp (L.set j c) b o cap := by
  have hk : Kp (fun k => k = b) w (w.setCell ⟨b, o + j, none⟩ (.int .u8 c.toNat)) := (Kp.refl (fun k => k = b) w).setCell (p := ⟨b, o + j, none⟩) (.inl rfl) _
  have hcb : cB ≠ b := fun e => by have := h.tag; rw [← e, h.rl.tc] at this; omega
  have hsize : (w.setCell ⟨b, o + j, none⟩ (.int .u8 c.toNat)).heap.size = w.heap.size := by simp
  rcases h.at_ with ⟨rfl, g, r, h1, h2, h3⟩ | ⟨rfl, e, h1⟩
  · have hp := h1.patch (j := o + j) (by omega) c
    refine ⟨⟨h.rl.blk.kept hk hcb, ⟨_, _, hp⟩, h.rl.tc, h.rl.tI, h.rl.tB, h.rl.tR, ?_, h.rl.traw, fun k hk2 => by rw [hsize]; exact h.rl.lt k hk2, h.rl.src⟩, by rw [List.length_set]; exact h.le, h.cpl, .inl ⟨rfl, g.set (o + j) c, r, hp, by rw [List.length_set]; exact h2, ?_⟩⟩
    · obtain ⟨k, xs, k1⟩ := h.rl.own
      exact ⟨k, xs, ownsRow_kp k1 hk (fun b e e2 => by have := h.rl.traw b e; rw [e2, h.rl.tB] at this; omega)⟩
    · rw [List.length_set, List.drop_set, if_neg (by omega), show o + j - o = j by omega, List.take_set, h3]
  · have hown : (w.setCell ⟨b, 0 + j, none⟩ (.int .u8 c.toNat)).ownsRow 0 5 1 raw (L.set j c).length (bcs (L.set j c)) := by
      rw [e] at h1 ⊢
      have h4 := h1.stored j (.int .u8 c.toNat)
      rw [Nat.zero_add, List.length_set]
      have h5 : bcs (L.set j c) = (bcs L).set j (.int .u8 c.toNat) := by unfold bcs; rw [List.map_set]
      rw [h5]
      exact h4.1
    refine ⟨⟨h.rl.blk.kept hk hcb, ?_, h.rl.tc, h.rl.tI, h.rl.tB, h.rl.tR, ⟨_, _, hown⟩, h.rl.traw, fun k hk2 => by rw [hsize]; exact h.rl.lt k hk2, h.rl.src⟩, by rw [List.length_set]; exact h.le, h.cpl, .inr ⟨rfl, by rw [List.length_set]; exact e, hown⟩⟩
    obtain ⟨g, r, k1⟩ := h.rl.bio
    have tb := h.rl.traw b (by rw [e]; rfl)
    exact ⟨g, r, k1.kept hk (fun k e hF => by have := h.rl.F hF; rw [e, tb] at this; omega) (fun hn b2 o2 e e2 => by have := h.rl.src hn b2 o2 e; rw [e2, tb] at this; omega)⟩
theorem Rl.draws (h : Rl w T A cB ae U n off raw rec fi fp) (k : Nat) : Rl (w.drewN k) T A cB ae U n off raw rec fi fp :=
  ⟨h.blk, by
    obtain ⟨g, r, h1⟩ := h.bio
    exact ⟨g, r, h1.kept ((Kp.refl (fun _ => False) w).drewN k) (fun _ e => e.elim) (fun _ _ _ _ e => e.elim)⟩, h.tc, h.tI, h.tB, h.tR, h.own, h.traw, h.lt, h.src⟩
end
/-- v reads the line l, in a block of tag 3 or 5. -/
structure Lv (w : World) (T : Nat → Nat) (v : Value) (l : Bs) : Prop where
  ex : ∃ b o cap, v = .slice (some ⟨b, o, none⟩) l.length cap ∧ l.length ≤ cap ∧ cap ≤ 9223372036854775807 ∧ (T b = 3 ∨ T b = 5) ∧ b < w.heap.size ∧ ∀ j (h : j < l.length), w.cell? ⟨b, o + j, none⟩ = some (.int .u8 l[j].toNat)

/-- What is owned, by its form. -/
theorem own_form {w : World} {e : TypeId} {size : Nat} {v : Value} {n : Nat} {xs : List Value} (h : w.ownsRow 0 e size v n xs) : ∃ ao cap, v = .slice ao n cap ∧ n ≤ cap ∧ cap ≤ maxLen ∧ (ao = none → n = 0 ∧ cap = 0) ∧ ∀ a, ao = some a → a = ⟨a.block, 0, none⟩ := by
  rcases h.2 with ⟨rfl, rfl⟩ | ⟨g, cap, cur, rfl, _, _, h1, h2, _⟩
  · exact ⟨none, 0, rfl, Nat.le_refl _, Nat.zero_le _, fun _ => ⟨rfl, rfl⟩, fun a e => (by cases e)⟩
  · exact ⟨_, cap, rfl, h1, h2, fun e => (by cases e), fun a e => (by cases e; rfl)⟩
/-- Cut to nothing. -/
theorem own_zero {w : World} {e : TypeId} {size : Nat} {ao : Option Addr} {n cap : Nat} {xs : List Value} (h : w.ownsRow 0 e size (.slice ao n cap) n xs) : w.ownsRow 0 e size (.slice ao 0 cap) 0 [] := by
  refine ⟨by simp, ?_⟩
  rcases h.2 with ⟨e1, rfl⟩ | ⟨g, c, cur, e1, h0, hg, h1, h2, h3, h4⟩
  · cases e1; exact .inl ⟨rfl, rfl⟩
  · cases e1; exact .inr ⟨g, cap, cur, rfl, h0, hg, Nat.zero_le _, h2, h3, by simp⟩
/-- append onto what is owned. -/
theorem run_app {w : World} (t ty e : TypeId) {i : TypeInfo} {z : Value} {size bytes : Nat} (ht : Tryz.prog.underlying t = some (.slice e)) (hi : Tryz.prog.info? e = some i) (hz : i.zero = some z)
    (hsize : i.size = size) (hby : i.bytes = bytes) (hzs : z.cells.size = size) (hsz : 0 < size)
    {v : Value} {n : Nat} {xs : List Value} (hown : w.ownsRow 0 e size v n xs)
    (a : Addr) (m c : Nat) (news : List Value) (hl : news.length = m * size) (hnews : ∀ j u, news[j]? = some u → w.cell? (a.add j) = some u) (h1 : ∀ u ∈ news, u.oneCell' = true)
    (h63 : n + m ≤ maxLen) (hbytes : (n + m) * bytes ≤ 140737488355328) :
    ∃ ao cap w', Sem.run Tryz.prog (Builtin.append_ #[t, t] ty #[v, .slice (some a) m c]) w = .ok (.slice ao (n + m) cap) w' ∧ w'.ownsRow 0 e size (.slice ao (n + m) cap) (n + m) (xs ++ news) ∧ w.grownBy w' v.ownBlock ∧ (Value.ownBlock (.slice ao (n + m) cap) = v.ownBlock ∨ Value.ownBlock (.slice ao (n + m) cap) = some w.heap.size) := by
  obtain ⟨v', w', h2, h3, h4, _, h6⟩ := run_append_own_at (P := Tryz.prog) w 0 t ty e i z size bytes ht hi hz hsize hby hzs hsz v n xs hown a m c news hl hnews h1 h63 hbytes (Nat.zero_le _)
  obtain ⟨ao, cap, rfl, _⟩ := own_form h3
  exact ⟨ao, cap, w', h2, h3, h4, h6⟩

/-- The tags below the heap's end stay. -/
structure Ext (w : World) (T T' : Nat → Nat) : Prop where
  old : ∀ k, k < w.heap.size → T' k = T k
  new : ∀ k, w.heap.size ≤ k → T' k = 0 ∨ T' k = 5
theorem Ext.refl {w : World} {T : Nat → Nat} (h : ∀ k, T k ≠ 0 → k < w.heap.size) : Ext w T T := ⟨fun _ _ => rfl, fun k hk => .inl (by
  rcases Nat.eq_zero_or_pos (T k) with e | e
  · exact e
  · have := h k (by omega); omega)⟩
theorem Ext.trans {w w1 : World} {T T1 T2 : Nat → Nat} (h : Ext w T T1) (k : Ext w1 T1 T2) (hs : w.heap.size ≤ w1.heap.size) : Ext w T T2 :=
  ⟨fun i hi => (k.old i (by omega)).trans (h.old i hi), fun i hi => by
    rcases Nat.lt_or_ge i w1.heap.size with h1 | h1
    · rw [k.old i h1]; exact h.new i hi
    · exact k.new i h1⟩
theorem Kp.ext {w w1 w2 : World} {T T1 : Nat → Nat} (h : Kp (Fl T) w w1) (he : Ext w T T1) (k : Kp (Fl T1) w1 w2) : Kp (Fl T) w w2 :=
  h.trans (k.mono (fun i _ hf => by
    rcases Nat.lt_or_ge i w.heap.size with h1 | h1
    · unfold Fl at hf; rw [he.old i h1] at hf; exact .inl hf
    · exact .inr h1))

/-- Behind ReadSlice. -/
theorem Rl.read {w w' : World} {T : Nat → Nat} {A : RA} {cB : Nat} {ae : Addr} {U U' L : Bs} {n : Nat} {off : Int} {raw rec fi fp v : Value} (h : Rl w T A cB ae U n off raw rec fi fp) (ho : RSOut w w' A ae U' L v) :
    ∃ o cap, v = .slice (some ⟨A.bB, o, none⟩) L.length cap ∧ Mid w' T A cB ae U' n off raw rec fi fp L A.bB o cap ∧ Kp (Fl T) w w' := by
  obtain ⟨g, r, o, cap, h1, h2, h3, h4, h5, h6⟩ := ho.ex
  have hk : Kp (Fl T) w w' := ho.kp.mono (fun k _ hF => by have := h.F hF; unfold Fl; omega)
  refine ⟨o, cap, h2, ⟨⟨h.blk.kept ho.kp (fun hF => by have := h.F hF; rw [h.tc] at this; omega), ⟨g, r, h1⟩, h.tc, h.tI, h.tB, h.tR, ?_, h.traw, fun k hk2 => Nat.lt_of_lt_of_le (h.lt k hk2) hk.size, h.src⟩, h3, by omega, .inl ⟨rfl, g, r, h1, h5, h6⟩⟩, hk⟩
  obtain ⟨k, xs, k1⟩ := h.own
  exact ⟨k, xs, ownsRow_kp k1 ho.kp (fun b e hF => by have := h.F hF; rw [h.traw b e] at this; omega)⟩
theorem own_lt {w : World} {e : TypeId} {size : Nat} {v : Value} {n : Nat} {xs : List Value} (h : w.ownsRow 0 e size v n xs) {b : Nat} (hb : v.ownBlock = some b) : b < w.heap.size := (h.lt b hb).2
/-- rawBuffer grown. -/
theorem Rl.grow {w : World} {T : Nat → Nat} {A : RA} {cB : Nat} {ae : Addr} {U : Bs} {n : Nat} {off : Int} {raw rec fi fp : Value} (h : Rl w T A cB ae U n off raw rec fi fp) {ob : Option Nat} {raw' : Value} {w2 : World} {k : Nat} {xs : List Value} (h0 : ob = raw.ownBlock) (hown : w2.ownsRow 0 5 1 raw' k xs) (hg : w.grownBy w2 ob) (hat : raw'.ownBlock = ob ∨ raw'.ownBlock = some w.heap.size)
    (wx : World) (e1 : wx.heap = (w2.setCell ⟨cB, 10, none⟩ raw').heap) (e2 : wx.os = w2.os) (e3 : wx.tape = w2.tape) (e4 : wx.output = w2.output) :
    ∃ T', Rl wx T' A cB ae U n off raw' rec fi fp ∧ wx.ownsRow 0 5 1 raw' k xs ∧ Kp (Fl T) w wx ∧ Ext w T T' := by
  subst h0
  let T' : Nat → Nat := fun k => if k = w.heap.size ∧ raw'.ownBlock = some w.heap.size then 5 else T k
  have hold : ∀ k, k < w.heap.size → T' k = T k := fun k hk => if_neg (by omega)
  have hlt : ∀ k, T k ≠ 0 → k < w.heap.size := h.lt
  have hk2 : Kp (fun k => raw.ownBlock = some k) w w2 := Kp.grown hg (fun k e => e)
  have hcs : cB < w.heap.size := h.blk.lt
  have hk : Kp (fun k => raw.ownBlock = some k ∨ k = cB) w wx := Kp.heap ((hk2.mono (fun k _ e => .inl e)).setCell (p := ⟨cB, 10, none⟩) (.inl (.inr rfl)) raw') e1 e2 e3 e4
  have hnc : ¬ raw.ownBlock = some cB := fun e => by have := h.traw cB e; rw [h.tc] at this; omega
  have hrc : raw'.ownBlock ≠ some cB := by
    intro e
    rcases hat with e2 | e2
    · exact hnc (e2.symm.trans e)
    · rw [e2] at e; have := Option.some.inj e; omega
  have hb : Blk wx cB 73 (cc A.bI n off raw' rec fi fp) := by
    have h1 := ((h.blk.kept hk2 hnc).store 10 raw').heap e1
    unfold cc at h1 ⊢
    simpa using h1
  have hFt : ∀ b, raw.ownBlock = some b ∨ b = cB → T b = 5 ∨ T b = 1 := fun b e => by
    rcases e with e | e
    · exact .inl (h.traw b e)
    · rw [e]; exact .inr h.tc
  have hown2 : wx.ownsRow 0 5 1 raw' k xs := by
    have h1 := ownsRow_setCell_other hown (a := ⟨cB, 10, none⟩) hrc raw'
    refine ⟨h1.1, ?_⟩
    rcases h1.2 with h2 | ⟨g, cap, cur, e, h3, h4, h5⟩
    · exact .inl h2
    · exact .inr ⟨g, cap, cur, e, h3, by rw [e1]; exact h4, h5⟩
  refine ⟨T', ⟨hb, ?_, ?_, ?_, ?_, ?_, ⟨k, xs, hown2⟩, ?_, ?_, ?_⟩, hown2, hk.mono (fun b _ e => by unfold Fl; have := hFt b e; omega), hold, ?_⟩
  · obtain ⟨g, r, h1⟩ := h.bio
    exact ⟨g, r, h1.kept hk (fun b e hF => by have := h.F hF; have := hFt b e; omega) (fun hn b o e e2 => by have := h.src hn b o e; have := hFt b e2; omega)⟩
  · rw [hold cB hcs]; exact h.tc
  · rw [hold _ (hlt _ (by rw [h.tI]; decide))]; exact h.tI
  · rw [hold _ (hlt _ (by rw [h.tB]; decide))]; exact h.tB
  · rw [hold _ (hlt _ (by rw [h.tR]; decide))]; exact h.tR
  · intro b hb2
    rcases hat with e | e
    · rw [e] at hb2
      have h5 := h.traw b hb2
      rw [hold b (hlt b (by omega))]; exact h5
    · rw [e] at hb2
      have : b = w.heap.size := (Option.some.inj hb2).symm
      show (if _ then _ else _) = _
      rw [if_pos ⟨this, e⟩]
  · intro b hb2
    have hsz : w.heap.size ≤ wx.heap.size := hk.size
    by_cases hc : b = w.heap.size ∧ raw'.ownBlock = some w.heap.size
    · rw [hc.1]; exact own_lt hown2 hc.2
    · have h6 : T' b = T b := if_neg hc
      rw [h6] at hb2
      have := hlt b hb2
      omega
  · intro hn b o e
    have h7 := h.src hn b o e
    have hbs : b < w.heap.size := by
      obtain ⟨g, r, h1⟩ := h.bio
      obtain ⟨wp, i, err, lb, lr, pr, k1, _⟩ := h1.ex
      obtain ⟨b2, o2, k2, _, k3, _⟩ := k1.ok.src hn
      rw [e] at k2
      cases k2
      exact k3
    rw [hold b hbs]; exact h7
  · intro b hb2
    by_cases hc : b = w.heap.size ∧ raw'.ownBlock = some w.heap.size
    · exact .inr (if_pos hc)
    · have h6 : T' b = T b := if_neg hc
      rw [h6]
      left
      rcases Nat.eq_zero_or_pos (T b) with e | e
      · exact e
      · have := hlt b (by omega); omega
end Go.Proofs.Qxb6615582aGreatFmt
