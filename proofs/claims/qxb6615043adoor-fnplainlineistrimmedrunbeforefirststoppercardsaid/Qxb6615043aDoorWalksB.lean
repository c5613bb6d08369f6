import Derived.Test.Qxb6615043aDoorWalksA
import Derived.Lib.DecodeN
import Derived.Deep.QuietTactic
import Derived.BigQuiet
import Derived.RegionTactic
namespace Go.Proofs.Qxb6615043aDoor
open Go.RowKit

theorem ret_two {k k' : IntKind} {a b c d : Int} (h : a = c) (h' : b = d) : Ending.returned (.tuple #[.int k a, .int k' b]) = .returned (.tuple #[.int k c, .int k' d]) := by rw [h, h']

section
variable (b off n cap i x0 x1 x2 x3 : Nat) (w : World)

set_option maxRecDepth 100000 in
set_option maxHeartbeats 400000 in
theorem zzDecode_ascii (hi : (i : Int) < n) (hx : x0 < 128)
    (c0 : w.cell? ⟨b, off + i, none⟩ = some (.int .u8 x0)) :
    Calls Tryd.prog 17 #[.slice (some ⟨b, off, none⟩) n cap, .int .i64 i] w fun e w' => e = .returned (.tuple #[.int .i32 (Lib.decodeN (n - i) x0 x1 x2 x3).1, .int .i64 (Lib.decodeN (n - i) x0 x1 x2 x3).2]) ∧ ∃ m, w' = w.drewN m := by
  have e : Lib.decodeN (n - i) x0 x1 x2 x3 = (x0, 1) := by simp [Lib.decodeN, hx]
  rw [e]; clear e
  have hx' : (x0 : Int) < 128 := by omega
  go_enter Tryd.func17, Tryd.ntmps17
  go_wp2
  go_ret2
  exact ⟨rfl, 0, rfl⟩

theorem slow_bad {sz lo hi : Nat} (h2 : 2 ≤ sz) (h3 : sz ≤ 4) (h : n < sz ∨ inB x1 lo hi = false ∨ (3 ≤ sz ∧ inB x2 128 191 = false) ∨ (4 ≤ sz ∧ inB x3 128 191 = false)) : Lib.slowN n x0 x1 x2 x3 sz lo hi = (65533, 1) := by
  unfold inB at h
  simp only [decide_eq_false_iff_not] at h
  unfold Lib.slowN
  repeat' split
  all_goals first | (exfalso; omega) | rfl
theorem slow_two {lo hi : Nat} (h : 2 ≤ n) (h1 : inB x1 lo hi = true) : Lib.slowN n x0 x1 x2 x3 2 lo hi = (x0 % 32 * 64 + x1 % 64, 2) := by
  unfold inB at h1
  simp only [decide_eq_true_eq] at h1
  unfold Lib.slowN
  repeat' split
  all_goals first | (exfalso; omega) | rfl
theorem slow_three {lo hi : Nat} (h : 3 ≤ n) (h1 : inB x1 lo hi = true) (h2 : inB x2 128 191 = true) : Lib.slowN n x0 x1 x2 x3 3 lo hi = (x0 % 16 * 4096 + x1 % 64 * 64 + x2 % 64, 3) := by
  unfold inB at h1 h2
  simp only [decide_eq_true_eq] at h1 h2
  unfold Lib.slowN
  repeat' split
  all_goals first | (exfalso; omega) | rfl
theorem slow_four {lo hi : Nat} (h : 4 ≤ n) (h1 : inB x1 lo hi = true) (h2 : inB x2 128 191 = true) (h3 : inB x3 128 191 = true) : Lib.slowN n x0 x1 x2 x3 4 lo hi = (x0 % 8 * 262144 + x1 % 64 * 4096 + x2 % 64 * 64 + x3 % 64, 4) := by
  unfold inB at h1 h2 h3
  simp only [decide_eq_true_eq] at h1 h2 h3
  unfold Lib.slowN
  repeat' split
  all_goals first | (exfalso; omega) | rfl

set_option maxRecDepth 100000 in
set_option maxHeartbeats 1000000 in
theorem zzDecode_two (hi : (i : Int) < n) (hn : n ≤ 1048576) (hx : 194 ≤ x0 ∧ x0 ≤ 223) (h1 : x1 < 256)
    (c0 : w.cell? ⟨b, off + i, none⟩ = some (.int .u8 x0)) (c1 : i + 1 < n → w.cell? ⟨b, off + (i + 1), none⟩ = some (.int .u8 x1)) :
    Calls Tryd.prog 17 #[.slice (some ⟨b, off, none⟩) n cap, .int .i64 i] w fun e w' => e = .returned (.tuple #[.int .i32 (Lib.slowN (n - i) x0 x1 x2 x3 2 128 191).1, .int .i64 (Lib.slowN (n - i) x0 x1 x2 x3 2 128 191).2]) ∧ ∃ m, w' = w.drewN m := by
  obtain ⟨hx1, hx2⟩ := hx
  have hx' : ¬ (x0 : Int) < 128 := by omega
  have hx1' : 194 ≤ (x0 : Int) := by omega
  have hx2' : (x0 : Int) ≤ 223 := by omega
  by_cases hl : i + 1 < n
  · have hl' : 2 ≤ (n : Int) - i := by omega
    have c1' := c1 hl
    clear c1
    cases hr : inB x1 128 191
    · rw [slow_bad (n - i) x0 x1 x2 x3 (by omega) (by omega) (.inr (.inl hr))]
      go_enter Tryd.func17, Tryd.ntmps17
      go_wp2_with (go_at_call 20; refine (zzIn_any _ _ _ _).mono ?_; rintro e w' ⟨rfl, rfl⟩)
      go_ret2
      exact ⟨rfl, 0, rfl⟩
    · rw [slow_two (n - i) x0 x1 x2 x3 (by omega) hr]
      go_enter Tryd.func17, Tryd.ntmps17
      go_wp2_with (go_at_call 20; refine (zzIn_any _ _ _ _).mono ?_; rintro e w' ⟨rfl, rfl⟩)
      go_ret2
      exact ⟨ret_two (by omega) (by omega), 0, rfl⟩
  · have hl' : (n : Int) - i < 2 := by omega
    rw [slow_bad (n - i) x0 x1 x2 x3 (by omega) (by omega) (.inl (by omega))]
    go_enter Tryd.func17, Tryd.ntmps17
    go_wp2_with (go_at_call 20; refine (zzIn_any _ _ _ _).mono ?_; rintro e w' ⟨rfl, rfl⟩)
    go_ret2
    exact ⟨rfl, 0, rfl⟩

end
end Go.Proofs.Qxb6615043aDoor
