import Derived.Test.Qxb6615582aGreatFmtRec
namespace Go.Proofs.Qxb6615582aGreatFmt
open Go.RowKit

section
variable {w w' : World} {T T' : Nat → Nat} {v : Value} {l : Bs}
theorem Lv.kept (h : Lv w T v l) {F : Nat → Prop} (hk : Kp F w w') (hF : ∀ k, F k → T k ≠ 3 ∧ T k ≠ 5) (ho : Old w T T') : Lv w' T' v l := by
  obtain ⟨b, o, cap, h1, h2, h3, h4, h5, h6⟩ := h.ex
  refine ⟨b, o, cap, h1, h2, h3, by rw [ho b h5]; exact h4, Nat.lt_of_lt_of_le h5 hk.size, fun j hj => ?_⟩
  rw [hk.cell (p := ⟨b, o + j, none⟩) h5 (fun e => by have := hF b e; omega)]
  exact h6 j hj
/-- A line by its form. -/
theorem Lv.form (h : Lv w T v l) : ∃ b o cap, v = .slice (some ⟨b, o, none⟩) l.length cap ∧ l.length ≤ cap ∧ cap ≤ 9223372036854775807 ∧ Cs w b o l := by
  obtain ⟨b, o, cap, h1, h2, h3, h4, h5, h6⟩ := h.ex
  exact ⟨b, o, cap, h1, h2, h3, h6⟩
theorem Lv.take {b o N cap : Nat} (h : Lv w T (.slice (some ⟨b, o, none⟩) N cap) l) {k : Nat} (hk : k ≤ l.length) : Lv w T (.slice (some ⟨b, o, none⟩) k cap) (l.take k) := by
  obtain ⟨b', o', cap', h1, h2, h3, h4, h5, h6⟩ := h.ex
  cases h1
  have hl : (l.take k).length = k := by simp; omega
  exact ⟨b, o, cap, by rw [hl], by rw [hl]; omega, h3, h4, h5, fun j hj => by rw [hl] at hj; rw [h6 j (by omega)]; simp⟩
theorem Lv.drop {b o N cap : Nat} (h : Lv w T (.slice (some ⟨b, o, none⟩) N cap) l) {k : Nat} (hk : k ≤ l.length) (kk : Int) (hkk : kk = k) (m : Nat) (hm : m = l.length - k) :
    ∃ b2 o2 cap2, (∀ w', Sem.run Tryz.prog (Instr.sliceAt 22 (.slice (some ⟨b, o, none⟩) N cap) (some (.int .i64 kk)) none none) w' = .ok (.slice (some ⟨b2, o2, none⟩) m cap2) w') ∧ m ≤ cap2 ∧ cap2 ≤ 9223372036854775807 ∧ Hid (Lv w T (.slice (some ⟨b2, o2, none⟩) m cap2) (l.drop k)) := by
  subst hkk hm
  obtain ⟨b', o', cap', h1, h2, h3, h4, h5, h6⟩ := h.ex
  cases h1
  have hk1 : (k : Int) ≤ (l.length : Int) := by omega
  have hk2 : (l.length : Int) ≤ cap := by omega
  have hk3 : (cap : Int) ≤ 9223372036854775807 := by omega
  have hl : (l.drop k).length = l.length - k := by simp
  by_cases hc : cap = k
  · refine ⟨b, o, cap - k, fun w' => ?_, by omega, by omega, b, o, cap - k, by rw [hl], by rw [hl]; omega, by omega, h4, h5, fun j hj => ?_⟩
    · have : cap = k := hc
      clear h2 h3 h4 h5 h6 h
      go_simp
    · rw [hl] at hj; omega
  · refine ⟨b, o + k, cap - k, fun w' => ?_, by omega, by omega, b, o + k, cap - k, by rw [hl], by rw [hl]; omega, by omega, h4, h5, fun j hj => ?_⟩
    · clear h2 h3 h4 h5 h6 h
      go_simp
    · rw [hl] at hj
      have := h6 (k + j) (by omega)
      rw [Nat.add_assoc, this]
      simp
end

/-- A position's box. -/
structure Ps (w : World) (T : Nat → Nat) (p : Nat) (l c : Int) : Prop where
  blk : Blk w p 128 #[.int .i64 l, .int .i64 c]
  tag : T p = 9
theorem Ps.kept {w w' : World} {T T' : Nat → Nat} {p : Nat} {l c : Int} (h : Ps w T p l c) {F : Nat → Prop} (hk : Kp F w w') (hF : ∀ k, F k → T k ≠ 9) (ho : Old w T T') : Ps w' T' p l c :=
  ⟨h.blk.kept hk (fun e => hF p e h.tag), by rw [ho p h.blk.lt]; exact h.tag⟩

section
variable {w : World} {T : Nat → Nat} {A : RA} {cB : Nat} {ae : Addr} {U : Bs} {n : Nat} {off : Int} {rb rec fi fp : Value} {R : Bs} {ix : List Nat} {ps : List (Int × Int)}
theorem Kp.of_eq {w W : World} (e1 : W.heap = w.heap) (e2 : W.os = w.os) (e3 : W.tape = w.tape) (e4 : W.output = w.output) (F : Nat → Prop) : Kp F w W := Kp.heap (Kp.refl F w) e1 e2 e3 e4
theorem Kp.of_alloc {w W : World} {o : Obj} (e1 : W.heap = (w.alloc o).heap) (e2 : W.os = w.os) (e3 : W.tape = w.tape) (e4 : W.output = w.output) (F : Nat → Prop) : Kp F w W := Kp.heap ((Kp.refl F w).alloc o) e1 e2 e3 e4
theorem Kp.join {w W wx : World} {F : Nat → Prop} (h : Kp (fun _ => False) w W) (k : Kp F W wx) : Kp F w wx := (h.mono (fun _ _ e => e.elim)).trans (k.mono (fun _ _ e => .inl e))
end

theorem Rr.app_line {w : World} {T : Nat → Nat} {A : RA} {cB : Nat} {ae : Addr} {U : Bs} {n : Nat} {off : Int} {rb fi fp : Value} {R : Bs} {ix : List Nat} {ps : List (Int × Int)} {ao : Option Addr} {cap : Nat} (h : Rr w T A cB ae U n off rb (.slice ao R.length cap) fi fp R ix ps) {b o m c : Nat} {L : Bs} (hl : Lv w T (.slice (some ⟨b, o, none⟩) m c) L) (W : World) (e1 : W.heap = w.heap) (e2 : W.os = w.os) (e3 : W.tape = w.tape) (e4 : W.output = w.output) (hR : R.length + L.length ≤ 4000000) :
    ∃ ao2 cap2 w2, Sem.run Tryz.prog (Builtin.append_ #[22, 22] 22 #[(.slice ao R.length cap), .slice (some ⟨b, o, none⟩) m c]) W = .ok (.slice ao2 (R.length + m) cap2) w2 ∧ w2.cell? ⟨cB, 11, none⟩ = some (.slice ao R.length cap) ∧ w2.cell? ⟨cB, 12, none⟩ = some fi ∧ w2.cell? ⟨cB, 13, none⟩ = some fp ∧ w2.frozen? ⟨cB, 11, none⟩ = false ∧ Kp (fun k => T k = 6) w w2 ∧
      Hid (∀ wx : World, wx.heap = (w2.setCell ⟨cB, 11, none⟩ (.slice ao2 (R.length + m) cap2)).heap → wx.os = w2.os → wx.tape = w2.tape → wx.output = w2.output → ∃ T', Rr wx T' A cB ae U n off rb (.slice ao2 (R.length + m) cap2) fi fp (R ++ L) ix ps ∧ Kp (fun k => T k = 1 ∨ T k = 6) w wx ∧ Old w T T') := by
  obtain ⟨b', o', c', h1, _, _, _, hblt, hcs⟩ := hl.ex
  have hm : L.length = m := by cases h1; rfl
  have hb' : b = b' ∧ o = o' := by cases h1; exact ⟨rfl, rfl⟩
  obtain ⟨rfl, rfl⟩ := hb'
  have hkW : Kp (fun _ => False) w W := Kp.of_eq e1 e2 e3 e4 _
  have hW := h.kept hkW (fun k e => e.elim)
  obtain ⟨i0, hi, hz0, hz1, hz2⟩ := info_parts Tryz.info5
  obtain ⟨ao2, cap2, w2, k1, k2, k3, k4⟩ := run_app (w := W) 22 22 5 Tryz.underlying22 hi hz0 hz1 hz2 rfl (by decide) hW.orec ⟨b, o, none⟩ m c (bcs L) (by rw [bcs_length, Nat.mul_one, hm]) (fun j u hj => by
    have hj2 := (List.getElem?_eq_some_iff.1 hj).1
    rw [bcs_length] at hj2
    rw [add_none, hkW.cell (p := ⟨b, o + j, none⟩) hblt (fun e => e), hcs j hj2, ← hj, bcs_at L hj2]) (one_bcs L) (by unfold maxLen; omega) (by omega)
  have hcb : ¬ Value.ownBlock (.slice ao R.length cap) = some cB := fun e => by have := h.trec cB e; rw [h.rl.tc] at this; omega
  have hk := Kp.grown k3 (F := fun k => Value.ownBlock (.slice ao R.length cap) = some k) (fun k e => e)
  have hblk := hW.rl.blk.kept hk hcb
  refine ⟨ao2, cap2, w2, k1, hblk.cell (k := 11) rfl, hblk.cell (k := 12) rfl, hblk.cell (k := 13) rfl, hblk.free 11, Kp.join hkW (hk.mono (fun k _ e => h.trec k e)), fun wx f1 f2 f3 f4 => ?_⟩
  obtain ⟨T', m1, m2, m3, _⟩ := hW.grow_rec (ob := Value.ownBlock (.slice ao R.length cap)) (R' := (R ++ L)) rfl (by
    have e5 : ((R ++ L)).length = R.length + m := by simp [hm]
    have e6 : bcs ((R ++ L)) = bcs R ++ (bcs L) := by rw [bcs_app]
    rw [e5, e6]; exact k2) k3 k4 wx f1 f2 f3 f4
  exact ⟨T', m1, Kp.join hkW m2, fun k hk2 => m3 k (Nat.lt_of_lt_of_le hk2 hkW.size)⟩

theorem Rr.app_q {w : World} {T : Nat → Nat} {A : RA} {cB : Nat} {ae : Addr} {U : Bs} {n : Nat} {off : Int} {rb fi fp : Value} {R : Bs} {ix : List Nat} {ps : List (Int × Int)} {ao : Option Addr} {cap : Nat} (h : Rr w T A cB ae U n off rb (.slice ao R.length cap) fi fp R ix ps)  (W : World) (e1 : W.heap = (w.alloc (.cells #[.int .u8 34] 5)).heap) (e2 : W.os = w.os) (e3 : W.tape = w.tape) (e4 : W.output = w.output) (hR : R.length ≤ 4000000) :
    ∃ ao2 cap2 w2, Sem.run Tryz.prog (Builtin.append_ #[22, 22] 22 #[(.slice ao R.length cap), .slice (some ⟨w.heap.size, 0, none⟩) 1 1]) W = .ok (.slice ao2 (R.length + 1) cap2) w2 ∧ w2.cell? ⟨cB, 11, none⟩ = some (.slice ao R.length cap) ∧ w2.cell? ⟨cB, 12, none⟩ = some fi ∧ w2.cell? ⟨cB, 13, none⟩ = some fp ∧ w2.frozen? ⟨cB, 11, none⟩ = false ∧ Kp (fun k => T k = 6) w w2 ∧
      Hid (∀ wx : World, wx.heap = (w2.setCell ⟨cB, 11, none⟩ (.slice ao2 (R.length + 1) cap2)).heap → wx.os = w2.os → wx.tape = w2.tape → wx.output = w2.output → ∃ T', Rr wx T' A cB ae U n off rb (.slice ao2 (R.length + 1) cap2) fi fp (R ++ [34]) ix ps ∧ Kp (fun k => T k = 1 ∨ T k = 6) w wx ∧ Old w T T') := by
  have hkW : Kp (fun _ => False) w W := Kp.of_alloc e1 e2 e3 e4 _
  have hW := h.kept hkW (fun k e => e.elim)
  obtain ⟨i0, hi, hz0, hz1, hz2⟩ := info_parts Tryz.info5
  obtain ⟨ao2, cap2, w2, k1, k2, k3, k4⟩ := run_app (w := W) 22 22 5 Tryz.underlying22 hi hz0 hz1 hz2 rfl (by decide) hW.orec ⟨w.heap.size, 0, none⟩ 1 1 [.int .u8 34] rfl (fun j u hj => by
    have hb : Blk W w.heap.size 5 #[.int .u8 34] := (Blk.new w 5 #[.int .u8 34]).heap e1
    match j, hj with
    | 0, hj => simp at hj; subst hj; exact hb.cell (k := 0) rfl) (fun u hu => by simp at hu; subst hu; rfl) (by unfold maxLen; omega) (by omega)
  have hcb : ¬ Value.ownBlock (.slice ao R.length cap) = some cB := fun e => by have := h.trec cB e; rw [h.rl.tc] at this; omega
  have hk := Kp.grown k3 (F := fun k => Value.ownBlock (.slice ao R.length cap) = some k) (fun k e => e)
  have hblk := hW.rl.blk.kept hk hcb
  refine ⟨ao2, cap2, w2, k1, hblk.cell (k := 11) rfl, hblk.cell (k := 12) rfl, hblk.cell (k := 13) rfl, hblk.free 11, Kp.join hkW (hk.mono (fun k _ e => h.trec k e)), fun wx f1 f2 f3 f4 => ?_⟩
  obtain ⟨T', m1, m2, m3, _⟩ := hW.grow_rec (ob := Value.ownBlock (.slice ao R.length cap)) (R' := (R ++ [34])) rfl (by
    have e5 : ((R ++ [34])).length = R.length + 1 := by simp
    have e6 : bcs ((R ++ [34])) = bcs R ++ [.int .u8 34] := by rw [bcs_app]; rfl
    rw [e5, e6]; exact k2) k3 k4 wx f1 f2 f3 f4
  exact ⟨T', m1, Kp.join hkW m2, fun k hk2 => m3 k (Nat.lt_of_lt_of_le hk2 hkW.size)⟩

theorem Rr.app_fi {w : World} {T : Nat → Nat} {A : RA} {cB : Nat} {ae : Addr} {U : Bs} {n : Nat} {off : Int} {rb rec fp : Value} {R : Bs} {ix : List Nat} {ps : List (Int × Int)} {ao : Option Addr} {cap : Nat} (h : Rr w T A cB ae U n off rb rec (.slice ao ix.length cap) fp R ix ps) (x : Nat) (W : World) (e1 : W.heap = (w.alloc (.cells #[.int .i64 x] 3)).heap) (e2 : W.os = w.os) (e3 : W.tape = w.tape) (e4 : W.output = w.output) (hR : ix.length ≤ 4000000) :
    ∃ ao2 cap2 w2, Sem.run Tryz.prog (Builtin.append_ #[70, 70] 70 #[(.slice ao ix.length cap), .slice (some ⟨w.heap.size, 0, none⟩) 1 1]) W = .ok (.slice ao2 (ix.length + 1) cap2) w2 ∧ w2.cell? ⟨cB, 11, none⟩ = some rec ∧ w2.cell? ⟨cB, 12, none⟩ = some (.slice ao ix.length cap) ∧ w2.cell? ⟨cB, 13, none⟩ = some fp ∧ w2.frozen? ⟨cB, 12, none⟩ = false ∧ Kp (fun k => T k = 7) w w2 ∧
      Hid (∀ wx : World, wx.heap = (w2.setCell ⟨cB, 12, none⟩ (.slice ao2 (ix.length + 1) cap2)).heap → wx.os = w2.os → wx.tape = w2.tape → wx.output = w2.output → ∃ T', Rr wx T' A cB ae U n off rb rec (.slice ao2 (ix.length + 1) cap2) fp R (ix ++ [x]) ps ∧ Kp (fun k => T k = 1 ∨ T k = 7) w wx ∧ Old w T T') := by
  have hkW : Kp (fun _ => False) w W := Kp.of_alloc e1 e2 e3 e4 _
  have hW := h.kept hkW (fun k e => e.elim)
  obtain ⟨i0, hi, hz0, hz1, hz2⟩ := info_parts Tryz.info3
  obtain ⟨ao2, cap2, w2, k1, k2, k3, k4⟩ := run_app (w := W) 70 70 3 Tryz.underlying70 hi hz0 hz1 hz2 rfl (by decide) hW.ofi ⟨w.heap.size, 0, none⟩ 1 1 [.int .i64 x] rfl (fun j u hj => by
    have hb : Blk W w.heap.size 3 #[.int .i64 x] := (Blk.new w 3 #[.int .i64 x]).heap e1
    match j, hj with
    | 0, hj => simp at hj; subst hj; exact hb.cell (k := 0) rfl) (fun u hu => by simp at hu; subst hu; rfl) (by unfold maxLen; omega) (by omega)
  have hcb : ¬ Value.ownBlock (.slice ao ix.length cap) = some cB := fun e => by have := h.tfi cB e; rw [h.rl.tc] at this; omega
  have hk := Kp.grown k3 (F := fun k => Value.ownBlock (.slice ao ix.length cap) = some k) (fun k e => e)
  have hblk := hW.rl.blk.kept hk hcb
  refine ⟨ao2, cap2, w2, k1, hblk.cell (k := 11) rfl, hblk.cell (k := 12) rfl, hblk.cell (k := 13) rfl, hblk.free 12, Kp.join hkW (hk.mono (fun k _ e => h.tfi k e)), fun wx f1 f2 f3 f4 => ?_⟩
  obtain ⟨T', m1, m2, m3, _⟩ := hW.grow_fi (ob := Value.ownBlock (.slice ao ix.length cap)) (ix' := (ix ++ [x])) rfl (by
    have e5 : ((ix ++ [x])).length = ix.length + 1 := by simp
    have e6 : ics ((ix ++ [x])) = ics ix ++ [.int .i64 x] := by rw [ics_app]; rfl
    rw [e5, e6]; exact k2) k3 k4 wx f1 f2 f3 f4
  exact ⟨T', m1, Kp.join hkW m2, fun k hk2 => m3 k (Nat.lt_of_lt_of_le hk2 hkW.size)⟩

theorem Rr.app_fp {w : World} {T : Nat → Nat} {A : RA} {cB : Nat} {ae : Addr} {U : Bs} {n : Nat} {off : Int} {rb rec fi : Value} {R : Bs} {ix : List Nat} {ps : List (Int × Int)} {ao : Option Addr} {cap : Nat} (h : Rr w T A cB ae U n off rb rec fi (.slice ao ps.length cap) R ix ps) (x y : Int) (W : World) (e1 : W.heap = (w.alloc (.cells #[.int .i64 x, .int .i64 y] 128)).heap) (e2 : W.os = w.os) (e3 : W.tape = w.tape) (e4 : W.output = w.output) (hR : ps.length ≤ 4000000) :
    ∃ ao2 cap2 w2, Sem.run Tryz.prog (Builtin.append_ #[71, 71] 71 #[(.slice ao ps.length cap), .slice (some ⟨w.heap.size, 0, none⟩) 1 1]) W = .ok (.slice ao2 (ps.length + 1) cap2) w2 ∧ w2.cell? ⟨cB, 11, none⟩ = some rec ∧ w2.cell? ⟨cB, 12, none⟩ = some fi ∧ w2.cell? ⟨cB, 13, none⟩ = some (.slice ao ps.length cap) ∧ w2.frozen? ⟨cB, 13, none⟩ = false ∧ Kp (fun k => T k = 8) w w2 ∧
      Hid (∀ wx : World, wx.heap = (w2.setCell ⟨cB, 13, none⟩ (.slice ao2 (ps.length + 1) cap2)).heap → wx.os = w2.os → wx.tape = w2.tape → wx.output = w2.output → ∃ T', Rr wx T' A cB ae U n off rb rec fi (.slice ao2 (ps.length + 1) cap2) R ix (ps ++ [(x, y)]) ∧ Kp (fun k => T k = 1 ∨ T k = 8) w wx ∧ Old w T T') := by
  have hkW : Kp (fun _ => False) w W := Kp.of_alloc e1 e2 e3 e4 _
  have hW := h.kept hkW (fun k e => e.elim)
  obtain ⟨i0, hi, hz0, hz1, hz2⟩ := info_parts Tryz.info128
  obtain ⟨ao2, cap2, w2, k1, k2, k3, k4⟩ := run_app (w := W) 71 71 128 Tryz.underlying71 hi hz0 hz1 hz2 rfl (by decide) hW.ofp ⟨w.heap.size, 0, none⟩ 1 1 [.int .i64 x, .int .i64 y] rfl (fun j u hj => by
    have hb : Blk W w.heap.size 128 #[.int .i64 x, .int .i64 y] := (Blk.new w 128 #[.int .i64 x, .int .i64 y]).heap e1
    match j, hj with
    | 0, hj => simp at hj; subst hj; exact hb.cell (k := 0) rfl
    | 1, hj => simp at hj; subst hj; exact hb.cell (k := 1) rfl) (fun u hu => by simp at hu; rcases hu with rfl | rfl <;> rfl) (by unfold maxLen; omega) (by omega)
  have hcb : ¬ Value.ownBlock (.slice ao ps.length cap) = some cB := fun e => by have := h.tfp cB e; rw [h.rl.tc] at this; omega
  have hk := Kp.grown k3 (F := fun k => Value.ownBlock (.slice ao ps.length cap) = some k) (fun k e => e)
  have hblk := hW.rl.blk.kept hk hcb
  refine ⟨ao2, cap2, w2, k1, hblk.cell (k := 11) rfl, hblk.cell (k := 12) rfl, hblk.cell (k := 13) rfl, hblk.free 13, Kp.join hkW (hk.mono (fun k _ e => h.tfp k e)), fun wx f1 f2 f3 f4 => ?_⟩
  obtain ⟨T', m1, m2, m3, _⟩ := hW.grow_fp (ob := Value.ownBlock (.slice ao ps.length cap)) (ps' := (ps ++ [(x, y)])) rfl (by
    have e5 : ((ps ++ [(x, y)])).length = ps.length + 1 := by simp
    have e6 : pcs ((ps ++ [(x, y)])) = pcs ps ++ [.int .i64 x, .int .i64 y] := by rw [pcs_app]; rfl
    rw [e5, e6]; exact k2) k3 k4 wx f1 f2 f3 f4
  exact ⟨T', m1, Kp.join hkW m2, fun k hk2 => m3 k (Nat.lt_of_lt_of_le hk2 hkW.size)⟩
end Go.Proofs.Qxb6615582aGreatFmt
