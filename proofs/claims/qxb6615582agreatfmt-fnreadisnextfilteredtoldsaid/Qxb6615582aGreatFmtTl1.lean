import Derived.Test.Qxb6615582aGreatFmtTl0
import Derived.Deep.LoopGhost
namespace Go.Proofs.Qxb6615582aGreatFmt
open Go.RowKit
/-- v is a slice of these strings, in memory that is not the reader's. -/
structure Strs (w : World) (T : Nat → Nat) (v : Value) (fs : List Bs) : Prop where
  ex : ∃ b cap, v = .slice (some ⟨b, 0, none⟩) fs.length cap ∧ fs.length ≤ cap ∧ T b = 0 ∧ b < w.heap.size ∧ ∀ k (h : k < fs.length), w.cell? ⟨b, k, none⟩ = some (.string ⟨fs[k].toArray⟩)
/-- A slice whose row is new since w0. -/
def Nwv (w0 : World) (v : Value) : Prop := ∀ b o n c, v = .slice (some ⟨b, o, none⟩) n c → w0.heap.size ≤ b
def RRPost (w0 : World) (T0 : Nat → Nat) (A : RA) (cB : Nat) (ae aq abq : Addr) (N : Nat) (X : Out × Nat) (e : Ending) (w' : World) : Prop :=
  ∃ v ve T U n R ix ps, e = .returned (.tuple #[v, ve]) ∧ Rx w0 T0 w' T A cB ae (N + 2) U n R ix ps ∧ St X.1.rest X.1.ln U n ∧
    ((X.1.oc = 1 ∧ ve = ev ae ∧ v = .slice none 0 0) ∨ (X.1.oc = 0 ∧ ve = .nilIface ∧ Strs w' T v X.1.fs ∧ Nwv w0 v ∧ ∃ p, ps.head? = some p ∧ p.1 = (X.2 : Int)) ∨
     (∃ pe a, ve = .iface 83 (.pointer (some ⟨pe, 0, none⟩)) ∧ Pe w' T pe X.2 a ∧ ((a = aq ∧ X.1.oc = 2) ∨ (a = abq ∧ X.1.oc = 3))))
/-- readRecord returns. -/
def Rt (w0 : World) (T0 : Nat → Nat) (A : RA) (cB : Nat) (ae aq abq : Addr) (N : Nat) (X : Out × Nat) (a : Act) (w : World) : Prop :=
  a.defers = [] ∧ RRPost w0 T0 A cB ae aq abq N X (.returned (.tuple #[a.eval (.tmp 4), a.eval (.tmp 5)])) w
section
variable {w0 : World} {T0 : Nat → Nat} {w : World} {T : Nat → Nat} {A : RA} {cB : Nat} {ae aq abq : Addr} {N st pB : Nat} {U : Bs} {n : Nat} {off : Int} {rb : Value} {ar : Option Addr} {cr : Nat} {af : Option Addr} {cf : Nat} {ap : Option Addr} {cp : Nat} {ps : List (Int × Int)} {fs : List Bs} {X : Out} {R z : Bs} {ix : List Nat} {f : Nat → Value} {R2 : Act → World → Prop} {s8 : Value}
/-- What the tail may come to. -/
def QR (R2 : Act → World → Prop) : Exit → Act → World → Prop
  | .ret, a, w => R2 a w
  | _, _, _ => False
set_option maxRecDepth 1000000 in
set_option maxHeartbeats 8000000 in
theorem tl_some (h0 : f 0 = .pointer (some ⟨cB, 0, none⟩)) (h1 : f 1 = .slice none 0 0) (h7 : f 7 = .nilIface) (h8 : f 8 = s8) (hs8 : s8 = .nilIface ∨ ∃ pe, s8 = .iface 83 (.pointer (some ⟨pe, 0, none⟩)))
    (hrr : Rr w T A cB ae U n off rb (.slice ar R.length cr) (.slice af ix.length cf) (.slice ap ps.length cp) R ix ps) (hR : R = fs.flatten ++ z) (hix : ix = cumF 0 fs) (hb : R.length + fs.length ≤ 3000001) (hne : fs ≠ [])
    (hR2 : ∀ a' w' B, a'.defers = [] → a'.eval (.tmp 4) = .slice (some ⟨B, 0, none⟩) fs.length fs.length → a'.eval (.tmp 5) = s8 → Fill w' B fs fs.length → w.heap.size ≤ B → B < w'.heap.size → Kp (fun _ => False) w w' → R2 a' w') : (tl2 Tryz.f55.body).wp Tryz.prog (QR R2) (Fr f) w := by
  have hcv := conv_own hrr.orec
  have hlx : ix.length = fs.length := by rw [hix, cumF_length]
  have hpos : 0 < fs.length := by cases fs with | nil => exact absurd rfl hne | cons c r => simp
  obtain ⟨m, hm⟩ : ∃ m, m = fs.length := ⟨_, rfl⟩
  have c2 : w.cell? ⟨cB, 2, none⟩ = some (.int .i64 (-1)) := hrr.rl.blk.cell rfl
  have c11 : w.cell? ⟨cB, 11, none⟩ = some (.slice ar R.length cr) := hrr.rl.blk.cell rfl
  have c12 : w.cell? ⟨cB, 12, none⟩ = some (.slice af m cf) := by rw [hm, ← hlx]; exact hrr.rl.blk.cell rfl
  obtain ⟨i9, hi, hz0, hz1, hz2⟩ := info_parts Tryz.info9
  have hmb : (m : Int) ≤ 3000001 := by omega
  have hmp : (0 : Int) < m := by omega
  have hmx : m ≤ 3000001 := by omega
  obtain ⟨wm, hmk, hmo, hmg⟩ := run_make_full (P := Tryz.prog) w 0 23 9 i9 _ 1 Tryz.underlying23 hi hz0 hz1 .i64 .i64 m (by rw [hz2]; omega) (by unfold maxLen; omega) (Nat.zero_le _)
  have hkm : Kp (fun _ => False) w wm := Kp.grown hmg (fun k e => by cases e)
  have hbm := hrr.rl.blk.kept hkm (fun e => e)
  have d2 : wm.cell? ⟨cB, 2, none⟩ = some (.int .i64 (-1)) := hbm.cell rfl
  have d12 : wm.cell? ⟨cB, 12, none⟩ = some (.slice af m cf) := by rw [hm, ← hlx]; exact hbm.cell rfl
  have hfl : Hid (Fill wm w.heap.size fs 0) := by
    rcases hmo.2 with ⟨e, _⟩ | ⟨g, cap, cur, e, _, hg, _, _, hcs, _⟩
    · cases e
    · cases e
      exact ⟨cur, hg, by omega, fun j _ hj => absurd hj (Nat.not_lt_zero _)⟩
  obtain ⟨ga, gcap, gcur, hafe, -, hgi, -, -, hgs, hgt⟩ : ∃ g cap cur, (Value.slice af ix.length cf) = .slice (some ⟨g, 0, none⟩) ix.length cap ∧ 0 ≤ g ∧ w.heap[g]? = some (.cells cur 3 (0, 0)) ∧ ix.length ≤ cap ∧ cap ≤ maxLen ∧ cur.size = cap * 1 ∧ cur.toList.take (ix.length * 1) = ics ix := by
    rcases hrr.ofi.2 with ⟨_, h5⟩ | h5
    · omega
    · exact h5
  have haf : af = some ⟨ga, 0, none⟩ := by cases hafe; rfl
  subst haf
  have hgic : Hid (∀ k, k < m → w.cell? ⟨ga, k, none⟩ = some (.int .i64 (((fs.take (k + 1)).flatten.length : Nat) : Int))) := fun k hk => by
    have h6 := hrr.ofi.cellAt k (by omega)
    rw [h6]
    unfold ics
    rw [List.getElem?_map, hix, cumF_at 0 fs k (by omega)]
    simp
  have hgl : ga < w.heap.size := (Array.getElem?_eq_some_iff.1 hgi).1
  have hcfb : (m : Int) ≤ cf := by obtain ⟨_, _, e, h5, _⟩ := own_form hrr.ofi; cases e; omega
  have hcfb2 : (cf : Int) ≤ 9223372036854775807 := by obtain ⟨_, _, e, _, h5, _⟩ := own_form hrr.ofi; cases e; unfold maxLen at h5; omega
  have Hrr := hide hrr
  have HR := hide hR
  have Hm := hide hm
  have Hkm := hide hkm
  have HR2 := hide hR2
  have Hb := hide hb
  clear hrr hR hix hb hne hlx hpos hm hR2 hkm hbm hmo hmg hafe hgi hgs hgt
  conv => arg 2; whnf
  unfold Fr
  rw [h0, h1, h7, h8]
  clear h0 h1 h7 h8
  rcases hs8 with rfl | ⟨pe, rfl⟩
  · go_wp2_with fail
    go_loopg [21, 512] m (fun gk s21 s512 wr => ∃ k p : Nat, s512 = .int .i64 k ∧ s21 = .int .i64 p ∧ k ≤ m ∧ gk = m - k ∧ Hid (p = (fs.take k).flatten.length ∧ Fill wr w.heap.size fs k ∧ Kp (fun j => j = w.heap.size) wm wr))
    case atStart => exact ⟨0, 0, rfl, rfl, Nat.zero_le _, rfl, rfl, hfl.out, Kp.refl _ _⟩
    case round =>
      obtain ⟨k, p, rfl, rfl, hk, rfl, hrr⟩ := hrel
      have hkw : Hid (Kp (fun j => j = w.heap.size) w wr) := (Hkm.out.mono (fun _ _ e => e.elim)).trans (hrr.out.2.2.mono (fun _ _ e => .inl e))
      have c2 : wr.cell? ⟨cB, 2, none⟩ = some (.int .i64 (-1)) := by
        rw [hrr.out.2.2.cell (p := ⟨cB, 2, none⟩) (lt_of_cell d2) (fun e => by have := Hrr.out.rl.blk.lt; simp at e; omega)]; exact d2
      by_cases hkm : k < m
      · have hkm' : (k : Int) < m := by omega
        obtain ⟨q, hq⟩ : ∃ q, q = (fs.take (k + 1)).flatten.length := ⟨_, rfl⟩
        have hkf : k < fs.length := by rw [← Hm.out]; exact hkm
        have hgc : wr.cell? ⟨ga, k, none⟩ = some (.int .i64 q) := by
          rw [hkw.out.cell (p := ⟨ga, k, none⟩) hgl (fun e => by simp at e; omega), hgic.out k hkm, hq]
        obtain ⟨F, hF⟩ : ∃ F, F = fs[k] := ⟨_, rfl⟩
        have hsl : ∀ w', Sem.run Tryz.prog (Instr.sliceAt 9 (.string ⟨R.toArray⟩) (some (.int .i64 p)) (some (.int .i64 q)) none) w' = .ok (.string ⟨F.toArray⟩) w' := by
          intro w'
          have hqq : q = p + fs[k].length := by rw [hq, take_flat fs k hkf, List.length_append, hrr.out.1]
          have hsz : (⟨R.toArray⟩ : ByteArray).size = R.length := by simp [ByteArray.size]
          have hqR : q ≤ R.length := by
            have h9 : fs.flatten = (fs.take (k + 1)).flatten ++ (fs.drop (k + 1)).flatten := by rw [← List.flatten_append, List.take_append_drop]
            rw [HR.out, List.length_append, h9, List.length_append, hq]
            omega
          have hex : (⟨R.toArray⟩ : ByteArray).extract p q = ⟨F.toArray⟩ := by
            apply ByteArray.ext
            rw [ByteArray.data_extract]
            apply Array.ext'
            simp only [Array.toList_extract, List.toList_toArray]
            rw [hF, ← flat_take fs z k hkf, ← HR.out, ← hrr.out.1, List.extract_eq_take_drop, hqq, Nat.add_sub_cancel_left]
          rw [← hex]
          exact str_slice w' _ p q (by omega) (by rw [hsz]; exact hqR)
        obtain ⟨v, hv⟩ := hrr.out.2.1.cell hkf
        have hvf := hrr.out.2.1.free k
        have Hq := hide hq
        have HF := hide hF
        have Hkf := hide hkf
        clear hq hF
        go_wp2
        go_roundg (m - (k + 1))
        case measure => omega
        case rel =>
          refine ⟨k + 1, q, by go_num, rfl, by omega, rfl, Hq.out, ?_, ?_⟩
          · refine hrr.out.2.1.store Hkf.out _ ?_
            rw [← HF.out]
          · exact hrr.out.2.2.setCell (p := ⟨w.heap.size, k, none⟩) (.inl rfl) _
      · obtain rfl : k = m := by omega
        go_wp2
        show R2 _ _
        refine HR2.out _ _ w.heap.size rfl (by rw [← Hm.out]; rfl) rfl (by rw [← Hm.out]; exact hrr.out.2.1) (Nat.le_refl _) ?_ ?_
        · obtain ⟨v, hv⟩ := hrr.out.2.1.cell (j := 0) (by rw [← Hm.out]; omega)
          exact lt_of_cell hv
        · exact hkw.out.mono (fun k hk e => by omega)
  · go_wp2_with fail
    go_loopg [21, 512] m (fun gk s21 s512 wr => ∃ k p : Nat, s512 = .int .i64 k ∧ s21 = .int .i64 p ∧ k ≤ m ∧ gk = m - k ∧ Hid (p = (fs.take k).flatten.length ∧ Fill wr w.heap.size fs k ∧ Kp (fun j => j = w.heap.size) wm wr))
    case atStart => exact ⟨0, 0, rfl, rfl, Nat.zero_le _, rfl, rfl, hfl.out, Kp.refl _ _⟩
    case round =>
      obtain ⟨k, p, rfl, rfl, hk, rfl, hrr⟩ := hrel
      have hkw : Hid (Kp (fun j => j = w.heap.size) w wr) := (Hkm.out.mono (fun _ _ e => e.elim)).trans (hrr.out.2.2.mono (fun _ _ e => .inl e))
      have c2 : wr.cell? ⟨cB, 2, none⟩ = some (.int .i64 (-1)) := by
        rw [hrr.out.2.2.cell (p := ⟨cB, 2, none⟩) (lt_of_cell d2) (fun e => by have := Hrr.out.rl.blk.lt; simp at e; omega)]; exact d2
      by_cases hkm : k < m
      · have hkm' : (k : Int) < m := by omega
        obtain ⟨q, hq⟩ : ∃ q, q = (fs.take (k + 1)).flatten.length := ⟨_, rfl⟩
        have hkf : k < fs.length := by rw [← Hm.out]; exact hkm
        have hgc : wr.cell? ⟨ga, k, none⟩ = some (.int .i64 q) := by
          rw [hkw.out.cell (p := ⟨ga, k, none⟩) hgl (fun e => by simp at e; omega), hgic.out k hkm, hq]
        obtain ⟨F, hF⟩ : ∃ F, F = fs[k] := ⟨_, rfl⟩
        have hsl : ∀ w', Sem.run Tryz.prog (Instr.sliceAt 9 (.string ⟨R.toArray⟩) (some (.int .i64 p)) (some (.int .i64 q)) none) w' = .ok (.string ⟨F.toArray⟩) w' := by
          intro w'
          have hqq : q = p + fs[k].length := by rw [hq, take_flat fs k hkf, List.length_append, hrr.out.1]
          have hsz : (⟨R.toArray⟩ : ByteArray).size = R.length := by simp [ByteArray.size]
          have hqR : q ≤ R.length := by
            have h9 : fs.flatten = (fs.take (k + 1)).flatten ++ (fs.drop (k + 1)).flatten := by rw [← List.flatten_append, List.take_append_drop]
            rw [HR.out, List.length_append, h9, List.length_append, hq]
            omega
          have hex : (⟨R.toArray⟩ : ByteArray).extract p q = ⟨F.toArray⟩ := by
            apply ByteArray.ext
            rw [ByteArray.data_extract]
            apply Array.ext'
            simp only [Array.toList_extract, List.toList_toArray]
            rw [hF, ← flat_take fs z k hkf, ← HR.out, ← hrr.out.1, List.extract_eq_take_drop, hqq, Nat.add_sub_cancel_left]
          rw [← hex]
          exact str_slice w' _ p q (by omega) (by rw [hsz]; exact hqR)
        obtain ⟨v, hv⟩ := hrr.out.2.1.cell hkf
        have hvf := hrr.out.2.1.free k
        have Hq := hide hq
        have HF := hide hF
        have Hkf := hide hkf
        clear hq hF
        go_wp2
        go_roundg (m - (k + 1))
        case measure => omega
        case rel =>
          refine ⟨k + 1, q, by go_num, rfl, by omega, rfl, Hq.out, ?_, ?_⟩
          · refine hrr.out.2.1.store Hkf.out _ ?_
            rw [← HF.out]
          · exact hrr.out.2.2.setCell (p := ⟨w.heap.size, k, none⟩) (.inl rfl) _
      · obtain rfl : k = m := by omega
        go_wp2
        show R2 _ _
        refine HR2.out _ _ w.heap.size rfl (by rw [← Hm.out]; rfl) rfl (by rw [← Hm.out]; exact hrr.out.2.1) (Nat.le_refl _) ?_ ?_
        · obtain ⟨v, hv⟩ := hrr.out.2.1.cell (j := 0) (by rw [← Hm.out]; omega)
          exact lt_of_cell hv
        · exact hkw.out.mono (fun k hk e => by omega)
end
end Go.Proofs.Qxb6615582aGreatFmt
