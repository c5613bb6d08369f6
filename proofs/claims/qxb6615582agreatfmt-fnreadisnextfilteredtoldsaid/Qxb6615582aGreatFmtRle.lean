import Derived.Test.Qxb6615582aGreatFmtErr
import Derived.Deep.DeepCutAuto
namespace Go.Proofs.Qxb6615582aGreatFmt
open Go.RowKit

def RLPost (w : World) (T : Nat → Nat) (A : RA) (cB : Nat) (ae : Addr) (U : Bs) (n : Nat) (rec fi fp : Value) (e : Ending) (w' : World) : Prop :=
  ∃ v T' off' rb', e = .returned (.tuple #[v, if U = [] then ev ae else .nilIface]) ∧ Rl w' T' A cB ae (raw U).2 (n + 1) off' rb' rec fi fp ∧ Lv w' T' v (trimCR (raw U).1) ∧ Kp (Fl T) w w' ∧ Ext w T T'

theorem Le.app {ae : Addr} {R L U : Bs} {ve : Value} (h : Le ae L U ve) (hR : 10 ∉ R) : Le ae (R ++ L) U ve := by
  rcases h with ⟨h1, a, rfl, h2⟩ | ⟨h1, h2, h3⟩
  · refine .inl ⟨h1, R ++ a, by rw [List.append_assoc], ?_⟩
    intro hm
    rcases List.mem_append.1 hm with e | e
    · exact hR e
    · exact h2 e
  · refine .inr ⟨h1, h2, ?_⟩
    intro hm
    rcases List.mem_append.1 hm with e | e
    · exact hR e
    · exact h3 e
theorem Le.raw {ae : Addr} {L U U1 : Bs} {ve : Value} (h : Le ae L U1 ve) (hU : U = L ++ U1) : raw U = (L, U1) := by
  rcases h with ⟨_, a, rfl, h2⟩ | ⟨_, rfl, h3⟩
  · rw [hU, List.append_assoc, List.singleton_append]
    exact raw_nl a U1 h2
  · rw [hU, List.append_nil]
    exact raw_all L h3
theorem trim_crnl (a : Bs) : trimCR (a ++ [13, 10]) = a ++ [10] := by
  unfold trimCR
  simp
theorem trim_nl {c : UInt8} (a : Bs) (h : c ≠ 13) : trimCR (a ++ [c, 10]) = a ++ [c, 10] := by
  unfold trimCR
  simp only [List.reverse_append, List.reverse_cons, List.reverse_nil, List.nil_append, List.cons_append]
  split
  · next h1 => simp at h1
  · next h1 => simp at h1; exact absurd h1.1 h
  · rfl
theorem trim_cr (a : Bs) : trimCR (a ++ [13]) = a := by
  unfold trimCR
  simp
theorem trim_no {c : UInt8} (a : Bs) (h : c ≠ 13) (h10 : c ≠ 10) : trimCR (a ++ [c]) = a ++ [c] := by
  unfold trimCR
  simp only [List.reverse_append, List.reverse_cons, List.reverse_nil, List.nil_append, List.cons_append]
  split
  · next h1 => simp at h1; exact absurd h1.1 h
  · next h1 => simp at h1; exact absurd h1.1 h10
  · rfl
section
variable {w wc wx : World} {T T1 : Nat → Nat} {A : RA} {cB : Nat} {ae : Addr} {U U1 L : Bs} {n : Nat} {off : Int} {rb rec fi fp ve : Value} {b o cap : Nat}
/-- The csv.Reader's two counts are turned. -/
theorem Mid.count (h : Mid wc T1 A cB ae U1 n off rb rec fi fp L b o cap) (x8 x9 : Int) (h8 : x8 = ((n + 1 : Nat) : Int)) : Mid ((wc.setCell ⟨cB, 8, none⟩ (.int .i64 x8)).setCell ⟨cB, 9, none⟩ (.int .i64 x9)) T1 A cB ae U1 (n + 1) x9 rb rec fi fp L b o cap ∧ Kp (Fl T1) wc ((wc.setCell ⟨cB, 8, none⟩ (.int .i64 x8)).setCell ⟨cB, 9, none⟩ (.int .i64 x9)) := by
  subst h8
  have hk : Kp (fun k => k = cB) wc ((wc.setCell ⟨cB, 8, none⟩ (.int .i64 ((n + 1 : Nat) : Int))).setCell ⟨cB, 9, none⟩ (.int .i64 x9)) := ((Kp.refl (fun k => k = cB) wc).setCell (p := ⟨cB, 8, none⟩) (.inl rfl) _).setCell (p := ⟨cB, 9, none⟩) (.inl rfl) _
  have hb := (h.rl.blk.store 8 (.int .i64 ((n + 1 : Nat) : Int))).store 9 (.int .i64 x9)
  exact ⟨h.turn hk (by unfold cc at hb ⊢; simpa using hb), hk.mono (fun k _ e => by unfold Fl; rw [e, h.rl.tc]; omega)⟩
theorem Mid.fl (h : Mid wc T1 A cB ae U1 n off rb rec fi fp L b o cap) : Fl T1 b := by
  unfold Fl
  have := h.tag
  omega
theorem Rl.heap (h : Rl wc T1 A cB ae U1 n off rb rec fi fp) (e1 : wx.heap = wc.heap) (e2 : wx.os = wc.os) (e3 : wx.tape = wc.tape) (e4 : wx.output = wc.output) : Rl wx T1 A cB ae U1 n off rb rec fi fp := by
  have hk : Kp (fun _ => False) wc wx := Kp.heap (Kp.refl _ wc) e1 e2 e3 e4
  refine ⟨h.blk.heap e1, ?_, h.tc, h.tI, h.tB, h.tR, ?_, h.traw, fun k hk2 => by rw [e1]; exact h.lt k hk2, h.src⟩
  · obtain ⟨g, r, h1⟩ := h.bio
    exact ⟨g, r, h1.kept hk (fun _ e => e.elim) (fun _ _ _ _ e => e.elim)⟩
  · obtain ⟨k, xs, k1⟩ := h.own
    exact ⟨k, xs, ownsRow_kp k1 hk (fun _ _ e => e.elim)⟩
/-- The line as it is handed out. -/
theorem Mid.out {z : Bs} (h : Mid wc T1 A cB ae U1 (n + 1) off rb rec fi fp (L ++ z) b o cap) (l : Bs) (hl : l = L) (e1 : wx.heap = wc.heap) : Lv wx T1 (.slice (some ⟨b, o, none⟩) l.length cap) l := by
  subst hl
  have hle := h.le
  rw [List.length_append] at hle
  refine ⟨b, o, cap, rfl, by omega, h.cpl, h.tag, by rw [e1]; exact h.lt, fun j hj => ?_⟩
  have h1 := h.cell (j := j) (by rw [List.length_append]; omega)
  rw [List.getElem_append_left hj] at h1
  rw [← h1]
  simp only [World.cell?, e1]
end
section
variable {w wc : World} {T T1 : Nat → Nat} {A : RA} {cB : Nat} {ae : Addr} {U U1 L : Bs} {n : Nat} {off : Int} {rb rec fi fp ve : Value} {b o cap : Nat}
/-- The end without a patch. -/
theorem rl_end (h : Mid wc T1 A cB ae U1 n off rb rec fi fp L b o cap) (hle : Le ae L U1 ve) (hU : U = L ++ U1) (hkp : Kp (Fl T) w wc) (hext : Ext w T T1) (l z : Bs) (hlz : L = l ++ z) (hl : trimCR L = l) (wx : World) (x8 x9 : Int) (h8 : x8 = ((n + 1 : Nat) : Int)) (m : Nat) (hm : m = l.length) (v2 : Value) (hv2 : v2 = if U = [] then ev ae else .nilIface)
    (e1 : wx.heap = ((wc.setCell ⟨cB, 8, none⟩ (.int .i64 x8)).setCell ⟨cB, 9, none⟩ (.int .i64 x9)).heap) (e2 : wx.os = wc.os) (e3 : wx.tape = wc.tape) (e4 : wx.output = wc.output) :
    RLPost w T A cB ae U n rec fi fp (.returned (.tuple #[.slice (some ⟨b, o, none⟩) m cap, v2])) wx := by
  subst hm hv2
  obtain ⟨k1, k2⟩ := h.count x8 x9 h8
  have hr := hle.raw hU
  rw [hlz] at k1
  refine ⟨_, T1, x9, rb, rfl, ?_, ?_, hkp.ext hext (Kp.heap k2 e1 e2 e3 e4), hext⟩
  · rw [hr]; exact k1.rl.heap e1 e2 e3 e4
  · rw [hr, hl]; exact k1.out l rfl e1
/-- The end with a patch. -/
theorem rl_endp (h : Mid wc T1 A cB ae U1 n off rb rec fi fp L b o cap) (hle : Le ae L U1 ve) (hU : U = L ++ U1) (hkp : Kp (Fl T) w wc) (hext : Ext w T T1) (a : Bs) (ha : L = a ++ [13, 10]) (wx : World) (x8 x9 : Int) (h8 : x8 = ((n + 1 : Nat) : Int)) (m : Nat) (hm : m = a.length + 1) (j : Nat) (hj : j = a.length)
    (e1 : wx.heap = (((wc.setCell ⟨cB, 8, none⟩ (.int .i64 x8)).setCell ⟨cB, 9, none⟩ (.int .i64 x9)).setCell ⟨b, o + j, none⟩ (.int .u8 10)).heap) (e2 : wx.os = wc.os) (e3 : wx.tape = wc.tape) (e4 : wx.output = wc.output) :
    RLPost w T A cB ae U n rec fi fp (.returned (.tuple #[.slice (some ⟨b, o, none⟩) m cap, .nilIface])) wx := by
  subst hm hj
  obtain ⟨k1, k2⟩ := h.count x8 x9 h8
  have hr := hle.raw hU
  have hne : U ≠ [] := by rw [hU, ha]; simp
  have k3 := k1.patch (j := a.length) (by rw [ha]; simp) 10
  have hs : L.set a.length 10 = (a ++ [10]) ++ [10] := by
    rw [ha]
    simp
  rw [hs] at k3
  have k4 : Kp (Fl T1) wc (((wc.setCell ⟨cB, 8, none⟩ (.int .i64 x8)).setCell ⟨cB, 9, none⟩ (.int .i64 x9)).setCell ⟨b, o + a.length, none⟩ (.int .u8 10)) := k2.setCell (p := ⟨b, o + a.length, none⟩) (.inl h.fl) _
  refine ⟨_, T1, x9, rb, by rw [if_neg hne], ?_, ?_, hkp.ext hext (Kp.heap k4 e1 e2 e3 e4), hext⟩
  · rw [hr]; exact k3.rl.heap e1 e2 e3 e4
  · rw [hr, ha, trim_crnl]
    have := k3.out (a ++ [10]) rfl e1
    rw [List.length_append] at this
    exact this
end
end Go.Proofs.Qxb6615582aGreatFmt
