import Derived.Test.Qxb6615043aDoorPlain
namespace Go.Proofs.Qxb6615043aDoor

/-- The bytes of a text, 0 behind its end. -/
def fl (l : List UInt8) (j : Nat) : Nat := (l.getD j 0).toNat
theorem fl_lt (l : List UInt8) (j : Nat) : fl l j < 256 := (l.getD j 0).toNat_lt
theorem fl_out {l : List UInt8} {j : Nat} (h : l.length ≤ j) : fl l j = 0 := by
  simp [fl, List.getD, List.getElem?_eq_none h]
/-- runeAt: the character at place i and its length; (-1, 0) behind the end. -/
def rn (l : List UInt8) (i : Nat) : Int × Nat := if i < l.length then ((dec l.length (fl l) i).1, (dec l.length (fl l) i).2) else (-1, 0)
/-- plainChar. -/
def pcB (l : List UInt8) (i : Nat) (flow aw : Bool) : Bool :=
  if safeB (rn l i).1 flow = false then false
  else if (rn l i).1 = 58 then safeB (rn l (i + (rn l i).2)).1 flow
  else if (rn l i).1 = 35 then !aw else true

/-- A decoded character: at most 4 bytes, at least one, inside the text; below 2^21. -/
theorem dec_bd (n : Nat) (f : Nat → Nat) (i : Nat) (h : i < n) (hf : ∀ j, f j < 256) : 1 ≤ (dec n f i).2 ∧ i + (dec n f i).2 ≤ n ∧ (dec n f i).1 ≤ 1114111 := by
  have := hf i
  unfold dec Lib.decodeN
  repeat' split
  all_goals (simp only; omega)

end Go.Proofs.Qxb6615043aDoor
