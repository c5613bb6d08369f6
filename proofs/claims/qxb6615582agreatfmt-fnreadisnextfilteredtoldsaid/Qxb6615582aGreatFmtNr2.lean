import Derived.Test.Qxb6615582aGreatFmtNr0
import Derived.Test.Qxb6615582aGreatFmtNr1
import Derived.Test.Qxb6615582aGreatFmtFg
import Derived.Test.Qxb6615582aGreatFmtNx2
import Derived.Test.Qxb6615582aGreatFmtShj
import Derived.Test.Qxb6615582aGreatFmtPl6
namespace Go.Proofs.Qxb6615582aGreatFmt
open Go.RowKit

/-- What the package-level variables hold, all of it below B. -/
structure Gw (B : Nat) (w : World) (ae ab aq abq : Addr) : Prop where
  e0 : Er w 0 ae
  e8 : Er w 8 ab
  e1 : Er w 1 aq
  e2 : Er w 2 abq
  ne : ae ≠ ab
  neq : aq ≠ abq
  tabs : Lib.Utf8Tabs 3 4 w
  h5 : w.cell? ⟨5, 0, none⟩ = some (.iface 143 (.agg #[.pointer (some ⟨14, 52, none⟩)]))
  lt : 9 ≤ B
  la : ae.block < B ∧ ab.block < B ∧ aq.block < B ∧ abq.block < B
theorem Gw.kept {B : Nat} {w w' : World} {ae ab aq abq : Addr} {F : Nat → Prop} (h : Gw B w ae ab aq abq) (hk : Kp F w w') (hF : ∀ k, k < B → ¬ F k) : Gw B w' ae ab aq abq := by
  have hl := h.lt
  obtain ⟨l1, l2, l3, l4⟩ := h.la
  exact ⟨h.e0.kept hk (hF _ (by omega)) (hF _ l1), h.e8.kept hk (hF _ (by omega)) (hF _ l2), h.e1.kept hk (hF _ (by omega)) (hF _ l3), h.e2.kept hk (hF _ (by omega)) (hF _ l4), h.ne, h.neq, tabs_kept h.tabs hk (hF _ (by omega)) (hF _ (by omega)), by rw [hk.cell (p := ⟨5, 0, none⟩) (lt_of_cell h.h5) (hF _ (by show 5 < B; omega))]; exact h.h5, hl, h.la⟩
theorem Gw.g0 {B : Nat} {w : World} {ae ab aq abq : Addr} {T : Nat → Nat} (h : Gw B w ae ab aq abq) (hT : ∀ k, k < B → T k = 0) : G0 w T ae ab aq abq := by
  have hl := h.lt
  obtain ⟨l1, l2, l3, l4⟩ := h.la
  exact ⟨⟨h.e0, hT _ (by omega), hT _ l1⟩, ⟨h.e8, hT _ (by omega), hT _ l2⟩, ⟨h.e1, hT _ (by omega), hT _ l3⟩, ⟨h.e2, hT _ (by omega), hT _ l4⟩, h.ne, h.tabs, hT _ (by omega), hT _ (by omega)⟩

/-- A reader that lies at nB; its own blocks are from B on. -/
structure Rdr (B : Nat) (w : World) (T : Nat → Nat) (nB : Nat) (sb : Option Addr) (cols : Value) (x : Bs) (ln N : Nat) (ae : Addr) : Prop where
  ex : ∃ A cB U n R ix ps, Rx w T w T A cB ae N U n R ix ps ∧ St x ln U n ∧ Blk w nB 68 #[.pointer (some ⟨cB, 0, none⟩), cols] ∧ (A.D ≠ [] → ∀ b o, A.ao = some ⟨b, o, none⟩ → ∃ o', sb = some ⟨b, o', none⟩)
  tn : T nB = 0
  low : ∀ k, k < B → T k = 0
  nb : B ≤ nB

theorem Rr.kept0 {w w' : World} {T : Nat → Nat} {A : RA} {cB : Nat} {ae : Addr} {U : Bs} {n : Nat} {off : Int} {rb rec fi fp : Value} {R : Bs} {ix : List Nat} {ps : List (Int × Int)} (h : Rr w T A cB ae U n off rb rec fi fp R ix ps) {F : Nat → Prop} (hk : Kp F w w') (hF : ∀ k, F k → T k = 0) (hs : A.D ≠ [] → ∀ b o, A.ao = some ⟨b, o, none⟩ → ¬ F b) : Rr w' T A cB ae U n off rb rec fi fp R ix ps :=
  ⟨h.rl.keptF hk (fun k e => .inl (hF k e)) hs,
   ownsRow_kp h.orec hk (fun b e hf => by have := h.trec b e; have := hF b hf; omega),
   ownsRow_kp h.ofi hk (fun b e hf => by have := h.tfi b e; have := hF b hf; omega),
   ownsRow_kp h.ofp hk (fun b e hf => by have := h.tfp b e; have := hF b hf; omega), h.trec, h.tfi, h.tfp⟩
/-- Memory that is not the reader's may turn. -/
theorem Rdr.kept {B : Nat} {w w' : World} {T : Nat → Nat} {nB : Nat} {sb : Option Addr} {cols : Value} {x : Bs} {ln N : Nat} {ae : Addr} {F : Nat → Prop} (h : Rdr B w T nB sb cols x ln N ae) (hk : Kp F w w') (hF : ∀ k, F k → T k = 0) (hn : ¬ F nB) (hs : ∀ b o, sb = some ⟨b, o, none⟩ → ¬ F b) : Rdr B w' T nB sb cols x ln N ae := by
  obtain ⟨A, cB, U, n, R, ix, ps, hrx, hst, hb, hsb⟩ := h.ex
  obtain ⟨off, rb, rec, fi, fp, hrr⟩ := hrx.rr
  exact ⟨⟨A, cB, U, n, R, ix, ps, ⟨⟨off, rb, rec, fi, fp, hrr.kept0 hk hF (fun hD b o e => by obtain ⟨o', e'⟩ := hsb hD b o e; exact hs b o' e')⟩, Jx.refl _ _, hrx.nb⟩, hst, hb.kept hk hn, hsb⟩, h.tn, h.low, h.nb⟩
theorem Rdr.quiet {B : Nat} {w w' : World} {T : Nat → Nat} {nB : Nat} {sb : Option Addr} {cols : Value} {x : Bs} {ln N : Nat} {ae : Addr} (h : Rdr B w T nB sb cols x ln N ae) (hk : Kp (fun _ => False) w w') : Rdr B w' T nB sb cols x ln N ae := h.kept hk (fun _ e => e.elim) (fun e => e) (fun _ _ _ e => e)
theorem Rdr.lower {B B' : Nat} {w : World} {T : Nat → Nat} {nB : Nat} {sb : Option Addr} {cols : Value} {x : Bs} {ln N : Nat} {ae : Addr} (h : Rdr B w T nB sb cols x ln N ae) (hB : B' ≤ B) : Rdr B' w T nB sb cols x ln N ae :=
  ⟨h.ex, h.tn, fun k hk => h.low k (by omega), Nat.le_trans hB h.nb⟩

/-- What next hands out, seen from the reader. -/
def NvPost (B : Nat) (w : World) (T : Nat → Nat) (nB : Nat) (sb : Option Addr) (cols : Value) (N : Nat) (ae aq abq : Addr) (X : Out × Nat) (e : Ending) (w' : World) : Prop :=
  ∃ v ve T', e = .returned (.tuple #[v, ve]) ∧ Rdr B w' T' nB sb cols X.1.rest X.1.ln (N + 2) ae ∧ Kp (Fa T) w w' ∧ Old w T T' ∧
    ((X.1.oc = 1 ∧ ve = ev ae ∧ v = .pointer none) ∨
     (X.1.oc = 0 ∧ ve = .nilIface ∧ ∃ lB fv, v = .pointer (some ⟨lB, 0, none⟩) ∧ Blk w' lB 42 #[.int .i64 X.2, fv, cols] ∧ T' lB = 0 ∧ Strs w' T' fv X.1.fs ∧ w.heap.size ≤ lB ∧ Nwv w fv) ∨
     (v = .pointer none ∧ ∃ fe a, ve = .iface 76 (.pointer (some ⟨fe, 0, none⟩)) ∧ Blk w' fe 79 #[.int .i64 X.2, .string .empty, ev a] ∧ T' fe = 0 ∧ ((a = aq ∧ X.1.oc = 2) ∨ (a = abq ∧ X.1.oc = 3))))
theorem nextR_c {B : Nat} {w : World} {T : Nat → Nat} {nB : Nat} {sb : Option Addr} {co : Option Addr} {cm cc' : Nat} {x : Bs} {ln N : Nat} {ae ab aq abq : Addr} (h : Rdr B w T nB sb (.slice co cm cc') x ln N ae) (hg : Gw B w ae ab aq abq) (hB : B ≤ w.heap.size) (hN : N ≤ 1099511626000) :
    Calls Tryz.prog 32 #[.pointer (some ⟨nB, 0, none⟩)] w (NvPost B w T nB sb (.slice co cm cc') N ae aq abq (recd x ln)) := by
  obtain ⟨A, cB, U, n, R, ix, ps, hrx, hst, hn, hsb⟩ := h.ex
  refine (next_c hrx (hg.g0 h.low) hg.h5 (h.low 5 (by have := hg.lt; omega)) hst hN hn h.tn).mono ?_
  rintro e w' ⟨v, ve, T', U', n', R', ix', ps', he, hrx', hst', hc⟩
  have hkn : Blk w' nB 68 #[.pointer (some ⟨cB, 0, none⟩), .slice co cm cc'] := hn.kept hrx'.jx.kp (by unfold Fa; have := h.tn; omega)
  exact ⟨v, ve, T', he, ⟨⟨A, cB, U', n', R', ix', ps', ⟨hrx'.rr, Jx.refl _ _, hrx'.nb⟩, hst', hkn, hsb⟩, by rw [hrx'.jx.old nB hn.lt]; exact h.tn, fun k hk => by rw [hrx'.jx.old k (by omega)]; exact h.low k hk, h.nb⟩, hrx'.jx.kp, hrx'.jx.old, hc⟩

/-- The tags of a new reader. -/
def tg (rB k : Nat) : Nat := if k = rB + 3 then 1 else if k = rB + 1 then 2 else if k = rB + 2 then 3 else if k = rB then 4 else 0
theorem tg_low {rB k : Nat} (h : k < rB) : tg rB k = 0 := by unfold tg; rw [if_neg (by omega), if_neg (by omega), if_neg (by omega), if_neg (by omega)]
theorem tg_high {rB k : Nat} (h : rB + 3 < k) : tg rB k = 0 := by unfold tg; rw [if_neg (by omega), if_neg (by omega), if_neg (by omega), if_neg (by omega)]
/-- A new reader's blocks. -/
structure Nw (w0 w : World) (rB : Nat) (D : Bs) (ao : Option Addr) (cap : Nat) : Prop where
  rd : Blk w rB 93 #[.slice ao D.length cap, .int .i64 0, .int .i64 (-1)]
  bio : Blk w (rB + 1) 158 #[.slice (some ⟨rB + 2, 0, none⟩) 4096 4096, .iface 64 (.pointer (some ⟨rB, 0, none⟩)), .int .i64 0, .int .i64 0, .nilIface, .int .i64 (-1), .int .i64 (-1)]
  buf : Blk w (rB + 2) 5 nz
  csv : Blk w (rB + 3) 73 (cc (rB + 1) 0 0 (.slice none 0 0) (.slice none 0 0) (.slice none 0 0) (.slice none 0 0))
  tx : Tx w0 ao D
  len : D.length ≤ 1048576
  le : D.length ≤ cap
  cp : cap ≤ 9223372036854775807
  kp : Kp (fun _ => False) w0 w
  sz : w0.heap.size ≤ rB
theorem Nw.rx {w0 w : World} {rB : Nat} {D : Bs} {ao : Option Addr} {cap : Nat} (h : Nw w0 w rB D ao cap) (ae : Addr) : Rx w (tg rB) w (tg rB) ⟨rB + 1, rB + 2, rB, ao, cap, D⟩ (rB + 3) ae D.length D 0 [] [] [] := by
  have hnil : ∀ e sz, w.ownsRow 0 e sz (.slice none 0 0) 0 [] := fun e sz => ⟨by simp, .inl ⟨rfl, rfl⟩⟩
  have hok : RA.ok ⟨rB + 1, rB + 2, rB, ao, cap, D⟩ w := by
    refine ⟨by simp, by simp, by simp, h.len, h.le, h.cp, fun hn => ?_⟩
    obtain ⟨b, o, h1, h2, h3⟩ := h.tx hn
    have := h.sz
    refine ⟨b, o, h1, ?_, Nat.lt_of_lt_of_le h2 h.kp.size, fun j hj => by rw [h.kp.cell (p := ⟨b, o + j, none⟩) h2 (fun e => e)]; exact h3 j hj⟩
    unfold RA.F
    simp only
    omega
  have hbio : Bio w ⟨rB + 1, rB + 2, rB, ao, cap, D⟩ (List.replicate 4096 0) 0 0 0 .nilIface (-1) (-1) (-1) := ⟨h.bio, h.buf, h.rd, List.length_replicate, Nat.le_refl _, by omega, Nat.zero_le _, hok⟩
  refine ⟨⟨0, .slice none 0 0, .slice none 0 0, .slice none 0 0, .slice none 0 0, ⟨⟨h.csv, ⟨List.replicate 4096 0, 0, ⟨⟨0, 0, .nilIface, -1, -1, -1, hbio, (by unfold unr; rw [List.take_zero]; rfl), .inl rfl⟩⟩⟩, ?_, ?_, ?_, ?_, ⟨0, [], hnil _ _⟩, fun b e => (by cases e), fun k hk => ?_, fun hn b o e => ?_⟩, hnil _ _, hnil _ _, hnil _ _, fun b e => (by cases e), fun b e => (by cases e), fun b e => (by cases e)⟩⟩, Jx.refl _ _, by simp⟩
  · simp [tg]
  · simp [tg]
  · simp [tg]
  · simp [tg]
  · have h3 := h.csv.lt
    rcases Nat.lt_or_ge (rB + 3) k with e | e
    · exact absurd (tg_high e) hk
    · omega
  · obtain ⟨b', o', h1, h2, _⟩ := h.tx hn
    have := h.sz
    rw [h1] at e
    cases e
    exact tg_low (by omega)
theorem Nw.rdr {w0 w : World} {rB : Nat} {D : Bs} {ao : Option Addr} {cap nB : Nat} {cols : Value} (h : Nw w0 w rB D ao cap) (ae : Addr) (hn : Blk w nB 68 #[.pointer (some ⟨rB + 3, 0, none⟩), cols]) (hnB : rB + 3 < nB) {sb : Option Addr} (hsb : D ≠ [] → ∀ b o, ao = some ⟨b, o, none⟩ → ∃ o', sb = some ⟨b, o', none⟩) : Rdr w0.heap.size w (tg rB) nB sb cols (norm D) 1 D.length ae :=
  ⟨⟨_, _, D, 0, [], [], [], h.rx ae, ⟨rfl, fun _ => rfl⟩, hn, hsb⟩, tg_high hnB, fun k hk => tg_low (by have := h.sz; omega), by have := h.sz; omega⟩
end Go.Proofs.Qxb6615582aGreatFmt
