import Derived.Test.Qxb6615582aGreatFmtRl
import Derived.Deep.LoopGhost
namespace Go.Proofs.Qxb6615582aGreatFmt
open Go.RowKit

/-- How a line ends: with a newline, or with the text. -/
def Le (ae : Addr) (L U : Bs) (ve : Value) : Prop := (ve = .nilIface ∧ ∃ a, L = a ++ [10] ∧ 10 ∉ a) ∨ (ve = ev ae ∧ U = [] ∧ 10 ∉ L)
/-- A whole line is at hand. -/
def MidP (w : World) (T : Nat → Nat) (A : RA) (cB : Nat) (ae : Addr) (U : Bs) (n : Nat) (off : Int) (rec fi fp : Value) (s4 s5 : Value) (wx : World) : Prop :=
  ∃ L U1 T1 rb b o cap, s4 = .slice (some ⟨b, o, none⟩) L.length cap ∧ Mid wx T1 A cB ae U1 n off rb rec fi fp L b o cap ∧ U = L ++ U1 ∧ Le ae L U1 s5 ∧ Kp (Fl T) w wx ∧ Ext w T T1
/-- A line beyond the buffer is being gathered. -/
def Gath (w : World) (T : Nat → Nat) (A : RA) (cB : Nat) (ae ab : Addr) (U : Bs) (n : Nat) (off : Int) (rec fi fp : Value) (gk : Nat) (s5 : Value) (wr : World) : Prop :=
  ∃ R U2 T2 rb, Rl wr T2 A cB ae U2 n off rb rec fi fp ∧ wr.ownsRow 0 5 1 rb R.length (bcs R) ∧ R ≠ [] ∧ U = R ++ U2 ∧ ((s5 = ev ab ∧ 10 ∉ R ∧ 2 * U2.length + 1 = gk) ∨ (Le ae R U2 s5 ∧ 2 * U2.length = gk)) ∧ Kp (Fl T) w wr ∧ Ext w T T2

theorem Rl.ulen {w : World} {T : Nat → Nat} {A : RA} {cB : Nat} {ae : Addr} {U : Bs} {n : Nat} {off : Int} {rb rec fi fp : Value} (h : Rl w T A cB ae U n off rb rec fi fp) : U.length ≤ 1052672 := by
  obtain ⟨g, r, h1⟩ := h.bio
  obtain ⟨wp, i, err, lb, lr, pr, k1, k2, _⟩ := h1.ex
  rw [← k2]
  unfold unr
  have := k1.gl
  have := k1.wl
  have := k1.ok.len
  simp; omega
theorem Rl.glob {w wx : World} {T : Nat → Nat} {p : Addr} {v : Value} (hc : w.cell? p = some v) (ht : T p.block = 0) (hk : Kp (Fl T) w wx) : wx.cell? p = some v := by
  rw [hk.cell (lt_of_cell hc) (by unfold Fl; omega)]; exact hc
theorem Rl.nF {w : World} {T : Nat → Nat} {A : RA} {cB : Nat} {ae : Addr} {U : Bs} {n : Nat} {off : Int} {rb rec fi fp : Value} (h : Rl w T A cB ae U n off rb rec fi fp) {k : Nat} (hk : T k = 0) : ¬ A.F k := fun e => by have := h.F e; omega
/-- ReadSlice from a reader's state. -/
theorem Rl.slice {w : World} {T : Nat → Nat} {A : RA} {cB : Nat} {ae ab : Addr} {U : Bs} {n : Nat} {off : Int} {rb rec fi fp : Value} (h : Rl w T A cB ae U n off rb rec fi fp) (he : w.cell? ⟨0, 0, none⟩ = some (ev ae)) (hb : w.cell? ⟨8, 0, none⟩ = some (ev ab)) (h0 : T 0 = 0) (h8 : T 8 = 0) :
    Calls Tryz.prog 82 #[.pointer (some ⟨A.bI, 0, none⟩), .int .u8 10] w fun e w' => ∃ L U' o cap ve, e = .returned (.tuple #[.slice (some ⟨A.bB, o, none⟩) L.length cap, ve]) ∧ Hid (U = L ++ U' ∧ Mid w' T A cB ae U' n off rb rec fi fp L A.bB o cap ∧ Kp (Fl T) w w' ∧ Kp A.F w w') ∧ (Hid (Le ae L U' ve) ∨ (ve = .iface 95 (.pointer (some ab)) ∧ Hid (L.length = 4096 ∧ 10 ∉ L))) := by
  obtain ⟨g, r, h1⟩ := h.bio
  refine (readSlice_c h1 he hb (h.nF h0) (h.nF h8)).mono ?_
  rintro e w' ⟨L, U', v, ve, rfl, k1, k2, k3⟩
  obtain ⟨o, cap, rfl, k4, k5⟩ := h.read k2
  refine ⟨L, U', o, cap, ve, rfl, ⟨k1, k4, k5, k2.kp⟩, ?_⟩
  rcases k3 with k3 | k3 | k3
  · exact .inl (.inl k3)
  · exact .inl (.inr k3)
  · exact .inr k3
/-- append onto rawBuffer. -/
theorem Rl.app {w : World} {T : Nat → Nat} {A : RA} {cB : Nat} {ae : Addr} {U : Bs} {n : Nat} {off : Int} {rb rec fi fp : Value} {L : Bs} {o cap : Nat} (h : Mid w T A cB ae U n off rb rec fi fp L A.bB o cap) {v : Value} {R : Bs} (hv : w.ownsRow 0 5 1 v R.length (bcs R)) (hvb : v.ownBlock = rb.ownBlock) (hR : R.length + L.length ≤ 2000000) :
    ∃ ao2 cap2 w2, Sem.run Tryz.prog (Builtin.append_ #[22, 22] 22 #[v, .slice (some ⟨A.bB, o, none⟩) L.length cap]) w = .ok (.slice ao2 (R.length + L.length) cap2) w2 ∧ (∃ x, w2.cell? ⟨cB, 10, none⟩ = some x) ∧ w2.frozen? ⟨cB, 10, none⟩ = false ∧
      Hid (∀ wx : World, wx.heap = (w2.setCell ⟨cB, 10, none⟩ (.slice ao2 (R.length + L.length) cap2)).heap → wx.os = w2.os → wx.tape = w2.tape → wx.output = w2.output → ∃ T', Rl wx T' A cB ae U n off (.slice ao2 (R.length + L.length) cap2) rec fi fp ∧ wx.ownsRow 0 5 1 (.slice ao2 (R.length + L.length) cap2) (R ++ L).length (bcs (R ++ L)) ∧ Kp (Fl T) w wx ∧ Ext w T T') := by
  obtain ⟨i0, hi, hz0, hz1, hz2⟩ := info_parts Tryz.info5
  obtain ⟨ao2, cap2, w2, k1, k2, k3, k4⟩ := run_app 22 22 5 Tryz.underlying22 hi hz0 hz1 hz2 rfl (by decide) hv ⟨A.bB, o, none⟩ L.length cap (bcs L) (by rw [bcs_length, Nat.mul_one]) (fun j u hj => by
    rw [add_none]
    have hj2 := (List.getElem?_eq_some_iff.1 hj).1
    rw [bcs_length] at hj2
    rw [h.cell hj2, ← hj, bcs_at L hj2]) (one_bcs L) (by unfold maxLen; omega) (by omega)
  have hcb : ¬ v.ownBlock = some cB := by
    rw [hvb]
    intro e
    have := h.rl.traw cB e
    rw [h.rl.tc] at this
    omega
  have hk := Kp.grown k3 (F := fun k => v.ownBlock = some k) (fun k e => e)
  have hblk := h.rl.blk.kept hk hcb
  refine ⟨ao2, cap2, w2, k1, ⟨_, hblk.cell (k := 10) rfl⟩, hblk.free 10, fun wx e1 e2 e3 e4 => ?_⟩
  obtain ⟨T', m1, m2, m3, m4⟩ := h.rl.grow (ob := v.ownBlock) hvb k2 k3 k4 wx e1 e2 e3 e4
  refine ⟨T', m1, ?_, m3, m4⟩
  have : bcs (R ++ L) = bcs R ++ bcs L := by unfold bcs; simp
  rw [this, List.length_append]
  exact m2
end Go.Proofs.Qxb6615582aGreatFmt
