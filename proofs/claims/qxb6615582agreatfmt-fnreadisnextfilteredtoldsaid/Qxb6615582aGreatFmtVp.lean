import Derived.Test.Qxb6615582aGreatFmtPlain
import Derived.Lib.ValidU
namespace Go.Proofs.Qxb6615582aGreatFmt

/-- How long the rune at the head is by its first byte (0: none begins so), and within what its second byte must lie. -/
def vhead (c : Nat) : Nat × Nat × Nat :=
  if c < 128 then (1, 0, 0) else if 194 ≤ c ∧ c ≤ 223 then (2, 128, 191) else if c = 224 then (3, 160, 191) else if 225 ≤ c ∧ c ≤ 236 then (3, 128, 191) else if c = 237 then (3, 128, 159) else if c = 238 ∨ c = 239 then (3, 128, 191) else if c = 240 then (4, 144, 191) else if 241 ≤ c ∧ c ≤ 243 then (4, 128, 191) else if c = 244 then (4, 128, 143) else (0, 0, 0)
/-- The byte at k. -/
def bt (l : Bs) (k : Nat) : Nat := (l.getD k 0).toNat
/-- How far the law's own test goes on; 0: it refuses. -/
def vstep (l : Bs) : Nat :=
  if bt l 0 < 128 then 1
  else if (vhead (bt l 0)).1 = 0 ∨ l.length < (vhead (bt l 0)).1 ∨ bt l 1 < (vhead (bt l 0)).2.1 ∨ (vhead (bt l 0)).2.2 < bt l 1 ∨ (3 ≤ (vhead (bt l 0)).1 ∧ (bt l 2 < 128 ∨ 191 < bt l 2)) ∨ (4 ≤ (vhead (bt l 0)).1 ∧ (bt l 3 < 128 ∨ 191 < bt l 3)) then 0
  else (vhead (bt l 0)).1
theorem bt_lt (l : Bs) (k : Nat) : bt l k < 256 := (l.getD k 0).toNat_lt
theorem bt_get (l : Bs) (k : Nat) : ((⟨l.toArray⟩ : ByteArray).get! k).toNat = bt l k := by
  unfold bt ByteArray.get!
  congr 1
  simp only [List.getD, getElem!_def, List.getElem?_toArray]
  cases l[k]? <;> rfl
set_option maxHeartbeats 4000000 in
theorem vstep_decode (l : Bs) (h : l ≠ []) : (vstep l = 0 ∧ (Lib.decodeL l).1 = 65533 ∧ (Lib.decodeL l).2 = 1) ∨ (vstep l = (Lib.decodeL l).2 ∧ 1 ≤ vstep l ∧ vstep l ≤ l.length ∧ ¬ ((Lib.decodeL l).1 = 65533 ∧ (Lib.decodeL l).2 = 1)) := by
  have hl : 1 ≤ l.length := by cases l with
    | nil => exact absurd rfl h
    | cons c r => simp
  have h0 := bt_lt l 0
  have h1 := bt_lt l 1
  have h2 := bt_lt l 2
  have h3 := bt_lt l 3
  unfold Lib.decodeL Utf8.decode
  simp only [Nat.zero_add, bt_get, show (⟨l.toArray⟩ : ByteArray).size = l.length from by simp [ByteArray.size]]
  unfold vstep vhead Utf8.valid Utf8.runeError
  generalize bt l 0 = b0 at *
  generalize bt l 1 = b1 at *
  generalize bt l 2 = b2 at *
  generalize bt l 3 = b3 at *
  generalize l.length = n at *
  simp only [Bool.and_eq_true, Bool.or_eq_true, decide_eq_true_eq, beq_iff_eq, ge_iff_le]
  clear h
  by_cases hb : b0 < 128
  · rw [if_pos hb, if_pos hb]
    exact .inr ⟨rfl, Nat.le_refl _, hl, fun e => by omega⟩
  · rw [if_neg hb, if_neg hb]
    repeat' split
    all_goals (try dsimp only at *)
    all_goals omega
theorem validGo_fuel : ∀ (n m : Nat) (l : Bs), l.length ≤ n → l.length ≤ m → Lib.validGoD n l = Lib.validGoD m l
  | 0, 0, l, _, _ => rfl
  | 0, m + 1, l, h, _ => by
    have : l = [] := List.eq_nil_of_length_eq_zero (by omega)
    subst this
    rfl
  | n + 1, 0, l, _, h => by
    have : l = [] := List.eq_nil_of_length_eq_zero (by omega)
    subst this
    rfl
  | n + 1, m + 1, l, h1, h2 => by
    unfold Lib.validGoD
    by_cases h : l = []
    · rw [if_pos h, if_pos h]
    · rw [if_neg h, if_neg h]
      rcases vstep_decode l h with ⟨_, h4, h5⟩ | ⟨h3, h4, h5, h6⟩
      · rw [if_pos ⟨h4, h5⟩, if_pos ⟨h4, h5⟩]
      · rw [if_neg h6, if_neg h6]
        refine validGo_fuel n m _ ?_ ?_ <;> (rw [List.length_drop]; omega)
theorem validD_nil : Lib.validD [] = true := rfl
theorem validD_step (l : Bs) (h : l ≠ []) : Lib.validD l = if vstep l = 0 then false else Lib.validD (l.drop (vstep l)) := by
  have hl : 1 ≤ l.length := by cases l with
    | nil => exact absurd rfl h
    | cons c r => simp
  unfold Lib.validD
  obtain ⟨n, hn⟩ : ∃ n, l.length = n + 1 := ⟨l.length - 1, by omega⟩
  rw [hn]
  conv => lhs; unfold Lib.validGoD
  rw [if_neg h]
  rcases vstep_decode l h with ⟨h3, h4, h5⟩ | ⟨h3, h4, h5, h6⟩
  · rw [if_pos ⟨h4, h5⟩, if_pos h3]
  · rw [if_neg h6, if_neg (by omega), h3]
    exact validGo_fuel _ _ _ (by rw [List.length_drop]; omega) (Nat.le_refl _)
theorem bt_drop (l : Bs) (i k : Nat) : bt (l.drop i) k = bt l (i + k) := by
  unfold bt
  simp [List.getD, List.getElem?_drop]
end Go.Proofs.Qxb6615582aGreatFmt
