import Derived.Test.Qxb6615582aGreatFmtLw7
import Derived.Test.Qxb6615582aGreatFmtTl0
namespace Go.Proofs.Qxb6615582aGreatFmt
open Go.RowKit

theorem results_tmp5 {fn : Func} {a b c d e : Tmp} (h : fn.results = #[.tmp a, .tmp b, .tmp c, .tmp d, .tmp e]) (tmps : Array Value) (P : Program) (w : World) :
    (results fn tmps).run P w = .ok (.tuple #[tmps.getD a undef, tmps.getD b undef, tmps.getD c undef, tmps.getD d undef, tmps.getD e undef]) w := by
  simp [results, h]

/-- The fields as cells. -/
def scs (fs : List Bs) : List Value := fs.map fun l => .string ⟨l.toArray⟩
theorem scs_length (fs : List Bs) : (scs fs).length = fs.length := by simp [scs]
theorem scs_push (fs : List Bs) (l : Bs) : scs (fs ++ [l]) = scs fs ++ [.string ⟨l.toArray⟩] := by simp [scs]
theorem bcs_push (l : Bs) (c : UInt8) : bcs (l ++ [c]) = bcs l ++ [.int .u8 c.toNat] := by simp [bcs]

theorem conv_acc {w0 w : World} {v : Value} {R : Bs} (h : Acc w0 w 5 v (bcs R)) {W : World} (eW : W.heap = w.heap) : Sem.run Tryz.prog (convert 22 9 v) W = .ok (.string ⟨R.toArray⟩) W := by
  obtain ⟨h1, h2⟩ := h.own
  rw [bcs_length] at h1 h2
  rcases h2 with ⟨e, h0⟩ | ⟨g, cap, cur, e, hg, hb, hn, hm, hs, ht⟩
  · have hR : R = [] := List.eq_nil_of_length_eq_zero h0
    subst hR
    cases e
    exact run_convert_bytes_nil (P := Tryz.prog) W 22 5 Tryz.underlying22 Tryz.underlying5 0 0 9 Tryz.underlying9
  · cases e
    refine run_convert_bytes_back W 22 9 5 ⟨g, 0, none⟩ _ R Tryz.underlying22 Tryz.underlying5 Tryz.underlying9 (fun j hj => ?_)
    have hW : W.ownsRow w0.heap.size 5 1 (.slice (some ⟨g, 0, none⟩) R.length cap) R.length (bcs R) := ⟨by rw [bcs_length]; omega, .inr ⟨g, cap, cur, rfl, hg, by rw [eW]; exact hb, hn, hm, hs, ht⟩⟩
    exact hW.cells (g := g) rfl j (.int .u8 R[j].toNat) (by rw [bcs_at R hj])

theorem skipB_step {t : Bs} {i : Nat} {c : UInt8} (h : t[i]? = some c) (ln : Nat) : skipB (t.drop i) ln = if c = 10 then skipB (t.drop (i + 1)) (ln + 1) else (t.drop i, ln) := by
  obtain ⟨h1, h2⟩ := List.getElem?_eq_some_iff.1 h
  rw [List.drop_eq_getElem_cons h1, h2, skipB]
theorem drop_get {t : Bs} {i : Nat} {c : UInt8} (h : t[i]? = some c) : t.drop i = c :: t.drop (i + 1) := by
  obtain ⟨h1, h2⟩ := List.getElem?_eq_some_iff.1 h
  rw [List.drop_eq_getElem_cons h1, h2]
theorem take_push {t : Bs} {q r : Nat} {c : UInt8} (h : t[r]? = some c) (hq : q ≤ r) : (t.drop q).take (r + 1 - q) = (t.drop q).take (r - q) ++ [c] := by
  obtain ⟨h1, h2⟩ := List.getElem?_eq_some_iff.1 h
  have h3 : r - q < (t.drop q).length := by rw [List.length_drop]; omega
  rw [show r + 1 - q = r - q + 1 by omega, List.take_succ_eq_append_getElem h3]
  congr 2
  rw [List.getElem_drop, ← h2]
  congr 1
  omega
theorem Tx.get {w w' : World} {ao : Option Addr} {t : Bs} (h : Tx w ao t) (hk : Kp (fun _ => False) w w') {j : Nat} (hj : j < t.length) : ∃ b o c, ao = some ⟨b, o, none⟩ ∧ w'.cell? ⟨b, o + j, none⟩ = some (.int .u8 (c : UInt8).toNat) ∧ t[j]? = some c := by
  obtain ⟨b, o, h1, h2⟩ := (h.kept hk).at_ hj
  exact ⟨b, o, t[j], h1, h2, List.getElem?_eq_getElem hj⟩
theorem cut_run {w : World} {ao : Option Addr} {cap : Nat} {t : Bs} {q r : Nat} (hT : Tx w ao t) (hq : q ≤ r) (hr : r ≤ t.length) (hc : t.length ≤ cap) (hc2 : cap ≤ 9223372036854775807) :
    ∃ a2 n c2, Sem.run Tryz.prog (Instr.sliceAt 22 (.slice ao t.length cap) (some (.int .i64 q)) (some (.int .i64 r)) none) w = .ok (.slice a2 n c2) w ∧ ∀ W : World, W.heap = w.heap → Sem.run Tryz.prog (convert 22 9 (.slice a2 n c2)) W = .ok (.string ⟨((t.drop q).take (r - q)).toArray⟩) W := by
  have h1 : (q : Int) ≤ r := by omega
  have h2 : (r : Int) ≤ cap := by omega
  have h3 : (cap : Int) ≤ 9223372036854775807 := by omega
  have hlen : ((t.drop q).take (r - q)).length = r - q := by rw [List.length_take, List.length_drop]; omega
  by_cases hqr : q = r
  · subst hqr
    have hnil : (t.drop q).take (q - q) = [] := by simp
    rw [hnil]
    have hru : ∃ a2 c2, Sem.run Tryz.prog (Instr.sliceAt 22 (.slice ao t.length cap) (some (.int .i64 q)) (some (.int .i64 q)) none) w = .ok (.slice a2 0 c2) w := by
      clear hT hr hc hlen hnil hq
      cases ao with
      | none =>
        refine ⟨none, cap - q, ?_⟩
        go_simp
      | some a =>
        refine ⟨some (if cap = q then a else a.add q), cap - q, ?_⟩
        go_simp
        split <;> rfl
    obtain ⟨a2, c2, hru⟩ := hru
    refine ⟨a2, 0, c2, hru, fun W _ => ?_⟩
    cases a2 with
    | none => exact run_convert_bytes_nil (P := Tryz.prog) W 22 5 Tryz.underlying22 Tryz.underlying5 0 c2 9 Tryz.underlying9
    | some a => exact run_convert_bytes_back W 22 9 5 a c2 [] Tryz.underlying22 Tryz.underlying5 Tryz.underlying9 (fun j hj => absurd hj (Nat.not_lt_zero _))
  · obtain ⟨b, o, h4, h5, h6⟩ := hT (by intro e; rw [e] at hr; simp at hr; omega)
    subst h4
    have hne : ¬ cap = q := by omega
    refine ⟨some ⟨b, o + q, none⟩, r - q, cap - q, ?_, fun W eW => ?_⟩
    · clear hT hr hc hlen hq h5 h6
      go_simp
    · have := run_convert_bytes_back W 22 9 5 ⟨b, o + q, none⟩ (cap - q) ((t.drop q).take (r - q)) Tryz.underlying22 Tryz.underlying5 Tryz.underlying9 (fun j hj => by
        rw [hlen] at hj
        rw [add_none, Nat.add_assoc, World.cell?_of_block (w := w) (by rw [eW])]
        have := h6 (q + j) (by omega)
        rw [this, List.getElem_take, List.getElem_drop])
      rw [hlen] at this
      exact this

/-- What zzRecord answers. -/
def RcPost (w : World) (t : Bs) (X : Out × Nat) (e : Ending) (w' : World) : Prop := ∃ fv, ∃ p : Nat, e = .returned (.tuple #[fv, .int .i64 X.2, .int .i64 p, .int .i64 X.1.ln, .int .i64 X.1.oc]) ∧ p ≤ t.length ∧ t.drop p = X.1.rest ∧ Acc w w' 9 fv (scs X.1.fs)
/-- At the start of a field. -/
def ZF (w : World) (t : Bs) (R : Out) (M : Nat) (p ln : Nat) (s12 : Value) (wr : World) : Prop := ∃ fs, Acc w wr 9 s12 (scs fs) ∧ fld (t.drop p) fs ln = R ∧ ln + (t.length - p) ≤ M ∧ fs.length ≤ p
end Go.Proofs.Qxb6615582aGreatFmt
