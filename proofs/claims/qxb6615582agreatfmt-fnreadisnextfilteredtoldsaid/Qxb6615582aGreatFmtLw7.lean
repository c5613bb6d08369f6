import Derived.Test.Qxb6615582aGreatFmtLw6
namespace Go.Proofs.Qxb6615582aGreatFmt
open Go.RowKit

theorem skipL_step {t : Bs} {i : Nat} (h : i < t.length) : skipL (t.drop i) = if t[i] = 10 then t.drop (i + 1) else skipL (t.drop (i + 1)) := by
  rw [List.drop_eq_getElem_cons h, skipL]
theorem skipN_step {t : Bs} {i : Nat} (h : i < t.length) (ln : Nat) : skipN (t.drop i) ln = if t[i] = 10 then ln + 1 else skipN (t.drop (i + 1)) ln := by
  rw [List.drop_eq_getElem_cons h]
  unfold skipN
  by_cases h1 : t[i] = 10
  · rw [if_pos h1, if_pos (by rw [h1]; exact List.mem_cons_self)]
  · rw [if_neg h1]
    simp only [List.mem_cons]
    have : (10 = t[i] ∨ 10 ∈ List.drop (i + 1) t) ↔ 10 ∈ List.drop (i + 1) t := ⟨fun e => by rcases e with e | e; exact absurd e.symm h1; exact e, .inr⟩
    simp only [this]

def SkPost (w : World) (t : Bs) (p ln : Nat) (e : Ending) (w' : World) : Prop := w' = w ∧ ∃ p' : Nat, e = .returned (.tuple #[.int .i64 p', .int .i64 (skipN (t.drop p) ln : Nat)]) ∧ p' ≤ t.length ∧ t.drop p' = skipL (t.drop p)
set_option maxRecDepth 100000 in
set_option maxHeartbeats 4000000 in
/-- zzSkipLine. -/
theorem skip_c {w : World} {ao : Option Addr} {cap : Nat} {t : Bs} {p ln : Nat} (hT : Tx w ao t) (hl : t.length ≤ 1048576) (hp : p ≤ t.length) (hln : ln ≤ 4000000) :
    Calls Tryz.prog 28 #[.slice ao t.length cap, .int .i64 p, .int .i64 ln] w (SkPost w t p ln) := by
  have HT := hide hT
  clear hT
  obtain ⟨m, hmm⟩ : ∃ m, m = t.length := ⟨_, rfl⟩
  rw [← hmm] at hl hp ⊢
  have Hm := hide hmm
  clear hmm
  have hl' : (m : Int) ≤ 1048576 := by omega
  have hln' : (ln : Int) ≤ 4000000 := by omega
  go_enter Tryz.func28, Tryz.ntmps28
  go_wp2_with fail
  go_loopg [8] (m - p) (fun gk s8 wr => ∃ i : Nat, s8 = .int .i64 i ∧ i ≤ m ∧ gk = m - i ∧ wr = w ∧ Hid (skipL (t.drop i) = skipL (t.drop p) ∧ skipN (t.drop i) ln = skipN (t.drop p) ln))
  case atStart => exact ⟨p, rfl, hp, rfl, rfl, rfl, rfl⟩
  case round =>
    obtain ⟨i, rfl, hi, rfl, rfl, hR⟩ := hrel
    by_cases him : i < m
    · have him' : (i : Int) < m := by omega
      have hiD : i < t.length := by rw [← Hm.out]; exact him
      obtain ⟨b, o, hao, hc⟩ := HT.out.at_ hiD
      subst hao
      obtain ⟨c, hcc⟩ : ∃ c, c = t[i] := ⟨_, rfl⟩
      rw [← hcc] at hc
      have H1 := hide (skipL_step hiD)
      have H2 := hide (skipN_step hiD ln)
      rw [← hcc] at H1 H2
      clear hcc hiD
      cases x10 : ((c.toNat : Int) == 10)
      · go_wp2_with fail
        go_roundg (m - (i + 1))
        case measure => omega
        case rel =>
          have hne : c ≠ 10 := by intro e; rw [e] at x10; cases x10
          exact ⟨i + 1, by go_num, by omega, rfl, rfl, by rw [← hR.out.1, H1.out, if_neg hne], by rw [← hR.out.2, H2.out, if_neg hne]⟩
      · go_wp2
        go_ret2
        have he : c = 10 := u8_eq x10
        refine ⟨rfl, i + 1, ?_, by rw [← Hm.out]; omega, by rw [← hR.out.1, H1.out, if_pos he]⟩
        rw [← hR.out.2, H2.out, if_pos he]
        simp
    · obtain rfl : i = m := by omega
      have him' : ¬ (i : Int) < i := by omega
      go_wp2
      go_ret2
      have hd : t.drop i = [] := List.drop_of_length_le (by rw [← Hm.out]; exact Nat.le_refl _)
      refine ⟨rfl, i, ?_, by rw [← Hm.out]; exact Nat.le_refl _, by rw [← hR.out.1, hd]; rfl⟩
      rw [← hR.out.2, hd]
      simp [skipN]
end Go.Proofs.Qxb6615582aGreatFmt
