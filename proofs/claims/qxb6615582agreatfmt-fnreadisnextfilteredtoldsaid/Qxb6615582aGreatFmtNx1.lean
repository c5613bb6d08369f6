import Derived.Test.Qxb6615582aGreatFmtRrw
namespace Go.Proofs.Qxb6615582aGreatFmt
open Go.RowKit

set_option maxRecDepth 100000 in
set_option maxHeartbeats 1000000 in
/-- csv.Reader.Read. -/
theorem csvRead_c {w : World} {T : Nat → Nat} {A : RA} {cB : Nat} {ae ab aq abq : Addr} {U : Bs} {n N : Nat} {R : Bs} {ix : List Nat} {ps : List (Int × Int)} {x : Bs} {ln : Nat} (h : Rx w T w T A cB ae N U n R ix ps) (hg : G0 w T ae ab aq abq) (hst : St x ln U n) (hN : N ≤ 1099511626000) :
    Calls Tryz.prog 44 #[.pointer (some ⟨cB, 0, none⟩)] w (RRPost w T A cB ae aq abq N (recd x ln)) := by
  have c5 : w.cell? ⟨cB, 5, none⟩ = some (.bool false) := by
    obtain ⟨off, rb, rec, fi, fp, h1⟩ := h.rr
    exact h1.rl.blk.cell rfl
  have HC := hide (readRecord_c h hg hst hN)
  clear h hg hst
  go_enter Tryz.func44, Tryz.ntmps44
  go_wp2_with ((go_at_call 55; refine HC.out.mono ?_; rintro e w1 hp; obtain ⟨v, ve, T1, U1, n1, R1, ix1, ps1, rfl, hrest⟩ := hp; have Hp := hide hrest; clear hrest))
  go_ret2
  exact ⟨v, ve, T1, U1, n1, R1, ix1, ps1, rfl, Hp.out⟩

set_option maxRecDepth 100000 in
set_option maxHeartbeats 1000000 in
/-- csv.Reader.FieldPos(0): the first field's line. -/
theorem fieldPos_c {w : World} {T : Nat → Nat} {A : RA} {cB : Nat} {ae : Addr} {U : Bs} {n : Nat} {off : Int} {rb rec fi fp : Value} {R : Bs} {ix : List Nat} {ps : List (Int × Int)} {p : Int × Int} (h : Rr w T A cB ae U n off rb rec fi fp R ix ps) (hp : ps.head? = some p) :
    Calls Tryz.prog 46 #[.pointer (some ⟨cB, 0, none⟩), .int .i64 0] w fun e w' => e = .returned (.tuple #[.int .i64 p.1, .int .i64 p.2]) ∧ ∃ k, w' = w.drewN k := by
  obtain ⟨q, r, rfl⟩ : ∃ q r, ps = q :: r := by
    cases ps with
    | nil => cases hp
    | cons q r => exact ⟨q, r, rfl⟩
  obtain rfl : q = p := by simpa using hp
  obtain ⟨g, cap, rfl, -, hg⟩ := h.ofp.form (by simp)
  have h13 : w.cell? ⟨cB, 13, none⟩ = some (.slice (some ⟨g, 0, none⟩) (q :: r).length cap) := h.rl.blk.cell rfl
  have q0 : w.cell? ⟨g, 0, none⟩ = some (.int .i64 q.1) := by rw [h.ofp.cellAt 0 (by simp)]; rfl
  have q1 : w.cell? ⟨g, 1, none⟩ = some (.int .i64 q.2) := by rw [h.ofp.cellAt 1 (by simp; omega)]; rfl
  obtain ⟨m, hm⟩ : ∃ m, (q :: r).length = m + 1 := ⟨r.length, by simp⟩
  rw [hm] at h13
  have hmm : ¬ (((m + 1 : Nat) : Int) ≤ 0) := by omega
  have hm0 : (0 : Int) < (m : Int) + 1 := by omega
  clear h hp hm
  go_enter Tryz.func46, Tryz.ntmps46
  go_wp2_with fail
  go_quiet (fail)
  go_wp2
  go_ret2
  exact ⟨rfl, _, rfl⟩
end Go.Proofs.Qxb6615582aGreatFmt
