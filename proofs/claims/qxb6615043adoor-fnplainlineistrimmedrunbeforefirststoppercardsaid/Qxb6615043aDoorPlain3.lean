import Derived.Test.Qxb6615043aDoorPlain2
namespace Go.Proofs.Qxb6615043aDoor

/-! ### skipWhite -/
def skF (l : List UInt8) : Nat → Nat → Nat
  | 0, i => i
  | m + 1, i => if blB (fl l i) = true then skF l m (i + 1) else i
/-- The first place from i on that holds no blank. -/
def sk (l : List UInt8) (i : Nat) : Nat := skF l (l.length - i) i

theorem bl_lt {l : List UInt8} {i : Nat} (h : blB (fl l i) = true) : i < l.length := by
  rcases Nat.lt_or_ge i l.length with hi | hi
  · exact hi
  · rw [fl_out hi] at h; simp [blB] at h
theorem sk_yes {l : List UInt8} {i : Nat} (h : blB (fl l i) = true) : sk l i = sk l (i + 1) := by
  have hi := bl_lt h
  unfold sk
  rw [show l.length - i = (l.length - (i + 1)) + 1 from by omega]
  simp only [skF]
  rw [if_pos h]
theorem sk_no {l : List UInt8} {i : Nat} (h : blB (fl l i) = false) : sk l i = i := by
  unfold sk
  rcases l.length - i with _ | m
  · rfl
  · simp only [skF]; rw [if_neg (by simp [h])]
theorem skF_bd (l : List UInt8) : ∀ m i, m = l.length - i → i ≤ l.length → i ≤ skF l m i ∧ skF l m i ≤ l.length ∧ blB (fl l (skF l m i)) = false ∧ ∀ j, i ≤ j → j < skF l m i → blB (fl l j) = true
  | 0, i, hm, hi => by
    refine ⟨Nat.le_refl _, hi, ?_, fun j h1 h2 => absurd h2 (by simp only [skF]; omega)⟩
    simp only [skF]
    rw [fl_out (by omega)]; rfl
  | m + 1, i, hm, hi => by
    simp only [skF]
    split
    · next h =>
      obtain ⟨a, b, c, d⟩ := skF_bd l m (i + 1) (by omega) (by omega)
      refine ⟨by omega, b, c, fun j h1 h2 => ?_⟩
      by_cases e : j = i
      · rw [e]; exact h
      · exact d j (by omega) h2
    · next h =>
      exact ⟨Nat.le_refl _, hi, by simpa using h, fun j h1 h2 => absurd h2 (by omega)⟩
theorem sk_bd {l : List UInt8} {i : Nat} (hi : i ≤ l.length) : i ≤ sk l i ∧ sk l i ≤ l.length ∧ blB (fl l (sk l i)) = false ∧ ∀ j, i ≤ j → j < sk l i → blB (fl l j) = true :=
  skF_bd l _ i rfl hi
end Go.Proofs.Qxb6615043aDoor
