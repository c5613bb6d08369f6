import Derived.Test.Qxb6615582aGreatFmtPlain3
import Derived.Lib.BytesEntry
namespace Go.Proofs.Qxb6615582aGreatFmt
open Go

theorem raw_nl : ∀ (a x : Bs), 10 ∉ a → raw (a ++ 10 :: x) = (a ++ [10], x)
  | [], x, _ => by simp [raw]
  | c :: a, x, h => by
    have hc : c ≠ 10 := fun e => h (by simp [e])
    show raw (c :: (a ++ 10 :: x)) = _
    rw [raw, if_neg hc, raw_nl a x (fun hm => h (List.mem_cons_of_mem _ hm))]; rfl
theorem raw_all : ∀ (a : Bs), 10 ∉ a → raw a = (a, [])
  | [], _ => rfl
  | c :: a, h => by
    have hc : c ≠ 10 := fun e => h (by simp [e])
    rw [raw, if_neg hc, raw_all a (fun hm => h (List.mem_cons_of_mem _ hm))]

theorem ib_no : ∀ {l : Bs} {c : UInt8}, c ∉ l → Lib.indexByte l c = -1
  | [], _, _ => rfl
  | b :: l, c, h => by
    have hb : (b == c) = false := by
      rw [beq_eq_false_iff_ne]; intro e; exact h (by simp [e])
    rw [Lib.indexByte, hb, ib_no (fun hm => h (List.mem_cons_of_mem _ hm))]; rfl
theorem ib_at : ∀ {a : Bs} {c : UInt8} (b : Bs), c ∉ a → Lib.indexByte (a ++ c :: b) c = a.length
  | [], c, b, _ => by rw [List.nil_append, Lib.indexByte]; simp
  | d :: a, c, b, h => by
    have hb : (d == c) = false := by
      rw [beq_eq_false_iff_ne]; intro e; exact h (by simp [e])
    show Lib.indexByte (d :: (a ++ c :: b)) c = _
    rw [Lib.indexByte, hb, ib_at b (fun hm => h (List.mem_cons_of_mem _ hm))]
    have : ((a.length : Int) == -1) = false := by rw [beq_eq_false_iff_ne]; omega
    rw [this]
    simp
/-- A byte is in a text, or not. -/
theorem part (c : UInt8) : ∀ l : Bs, c ∉ l ∨ ∃ a b, l = a ++ c :: b ∧ c ∉ a
  | [] => .inl (by simp)
  | d :: l => by
    by_cases hd : d = c
    · exact .inr ⟨[], l, by simp [hd], by simp⟩
    · rcases part c l with h | ⟨a, b, rfl, h⟩
      · exact .inl (by simp [h]; exact fun e => hd e.symm)
      · exact .inr ⟨d :: a, b, rfl, by simp [h]; exact fun e => hd e.symm⟩
end Go.Proofs.Qxb6615582aGreatFmt
