import Derived.Test.Qxb6615582aGreatFmtLw4
import Derived.Test.Qxb6615582aGreatFmtRec4
namespace Go.Proofs.Qxb6615582aGreatFmt
open Go.RowKit

/-- Bytes behind a slice's address. -/
def Tx (w : World) (ao : Option Addr) (D : Bs) : Prop := D ≠ [] → ∃ b o, ao = some ⟨b, o, none⟩ ∧ b < w.heap.size ∧ ∀ j (h : j < D.length), w.cell? ⟨b, o + j, none⟩ = some (.int .u8 D[j].toNat)
theorem Tx.kept {w w' : World} {ao : Option Addr} {D : Bs} (h : Tx w ao D) (hk : Kp (fun _ => False) w w') : Tx w' ao D := fun hn => by
  obtain ⟨b, o, h1, h2, h3⟩ := h hn
  exact ⟨b, o, h1, Nat.lt_of_lt_of_le h2 hk.size, fun j hj => by rw [hk.cell (p := ⟨b, o + j, none⟩) h2 (fun e => e)]; exact h3 j hj⟩
theorem Tx.at_ {w : World} {ao : Option Addr} {D : Bs} (h : Tx w ao D) {j : Nat} (hj : j < D.length) : ∃ b o, ao = some ⟨b, o, none⟩ ∧ w.cell? ⟨b, o + j, none⟩ = some (.int .u8 D[j].toNat) := by
  obtain ⟨b, o, h1, h2, h3⟩ := h (by intro e; rw [e] at hj; exact absurd hj (Nat.not_lt_zero _))
  exact ⟨b, o, h1, h3 j hj⟩

/-- A row of the call's own, grown by append since the world w0. -/
structure Acc (w0 w : World) (e : TypeId) (v : Value) (xs : List Value) : Prop where
  own : w.ownsRow w0.heap.size e 1 v xs.length xs
  kp : Kp (fun _ => False) w0 w
theorem Acc.nil (w : World) (e : TypeId) : Acc w w e (.slice none 0 0) [] := ⟨⟨rfl, .inl ⟨rfl, rfl⟩⟩, Kp.refl _ _⟩
theorem own_form2 {w : World} {B : Nat} {e : TypeId} {size : Nat} {v : Value} {n : Nat} {xs : List Value} (h : w.ownsRow B e size v n xs) : ∃ ao cap, v = .slice ao n cap := by
  rcases h.2 with ⟨rfl, rfl⟩ | ⟨g, cap, cur, rfl, _⟩
  · exact ⟨none, 0, rfl⟩
  · exact ⟨_, cap, rfl⟩
theorem Acc.app {w0 w : World} {t e : TypeId} {z : Value} {by_ : Nat} {v : Value} {xs : List Value} (h : Acc w0 w e v xs) (u : Value) (hu : u.oneCell' = true) (ht : Tryz.prog.underlying t = some (.slice e)) (hi : (Tryz.prog.info? e).map (fun i => (i.zero, i.size, i.bytes)) = some (some z, 1, by_)) (hz : z.cells.size = 1) (hb : by_ ≤ 64)
    (W : World) (e1 : W.heap = (w.alloc (.cells #[u] e)).heap) (e2 : W.os = w.os) (e3 : W.tape = w.tape) (e4 : W.output = w.output) (hl : xs.length ≤ 4000000) :
    ∃ ao cap w2, Sem.run Tryz.prog (Builtin.append_ #[t, t] t #[v, .slice (some ⟨w.heap.size, 0, none⟩) 1 1]) W = .ok (.slice ao (xs.length + 1) cap) w2 ∧ Hid (∀ wx : World, wx.heap = w2.heap → wx.os = w2.os → wx.tape = w2.tape → wx.output = w2.output → Acc w0 wx e (.slice ao (xs.length + 1) cap) (xs ++ [u])) := by
  have hkW : Kp (fun _ => False) w W := Kp.of_alloc e1 e2 e3 e4 _
  obtain ⟨i0, hi, hz0, hz1, hz2⟩ := info_parts hi
  have hW : W.ownsRow w0.heap.size e 1 v xs.length xs := by
    refine ⟨h.own.1, ?_⟩
    rcases h.own.2 with h2 | ⟨g, cap, cur, e, h0, hg, h3⟩
    · exact .inl h2
    · exact .inr ⟨g, cap, cur, e, h0, by rw [hkW.block g (Array.getElem?_eq_some_iff.1 hg).1 (fun e => e)]; exact hg, h3⟩
  have hbl : Blk W w.heap.size e #[u] := (Blk.new w e #[u]).heap e1
  obtain ⟨v', w', h2, h3, h4, _, h6⟩ := run_append_own_at (P := Tryz.prog) W w0.heap.size t t e i0 z 1 by_ ht hi hz0 hz1 hz2 hz (by decide) v xs.length xs hW ⟨w.heap.size, 0, none⟩ 1 1 [u] rfl (fun j u' hj => by
    match j, hj with
    | 0, hj => simp at hj; subst hj; exact hbl.cell (k := 0) rfl) (fun u' hu' => by simp at hu'; subst hu'; exact hu) (by unfold maxLen; omega) (Nat.le_trans (Nat.mul_le_mul_left _ hb) (by omega)) (Nat.le_trans h.kp.size hkW.size)
  obtain ⟨ao, cap, rfl⟩ := own_form2 h3
  refine ⟨ao, cap, w', h2, fun wx f1 f2 f3 f4 => ⟨?_, ?_⟩⟩
  · rw [List.length_append]
    refine ⟨h3.1, ?_⟩
    rcases h3.2 with h7 | ⟨g, c, cur, e, h0, hg, h7⟩
    · exact .inl h7
    · exact .inr ⟨g, c, cur, e, h0, by rw [f1]; exact hg, h7⟩
  · have hk2 : Kp (fun k => v.ownBlock = some k) W w' := Kp.grown h4 (fun k e => e)
    have hk3 : Kp (fun k => v.ownBlock = some k) W wx := ⟨f2.trans hk2.os, f3.trans hk2.tape, f4.trans hk2.output, by rw [f1]; exact hk2.size, fun k hk hn => by rw [f1]; exact hk2.block k hk hn⟩
    refine (h.kp.trans (hkW.mono (fun _ _ e => e.elim))).trans (hk3.mono (fun k _ e => .inr ?_))
    exact (hW.lt k e).1
theorem Acc.quiet {w0 w w' : World} {e : TypeId} {v : Value} {xs : List Value} (h : Acc w0 w e v xs) (hk : Kp (fun _ => False) w w') : Acc w0 w' e v xs := by
  refine ⟨⟨h.own.1, ?_⟩, h.kp.trans (hk.mono (fun _ _ e => e.elim))⟩
  rcases h.own.2 with h7 | ⟨g, c, cur, e, h0, hg, h7⟩
  · exact .inl h7
  · exact .inr ⟨g, c, cur, e, h0, by rw [hk.block g (Array.getElem?_eq_some_iff.1 hg).1 (fun e => e)]; exact hg, h7⟩

/-- The text behind a byte-order mark. -/
def body (D : Bs) : Bs := if D.take 3 = [239, 187, 191] then D.drop 3 else D
end Go.Proofs.Qxb6615582aGreatFmt
