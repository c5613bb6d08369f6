import Derived.Test.Qxb6615582aGreatFmtPl5
namespace Go.Proofs.Qxb6615582aGreatFmt

/-- The fields' sizes. -/
structure Fz (R : Out) (x buf : Bs) (fs : List Bs) : Prop where
  cnt : R.fs.length ≤ fs.length + 1 + x.length
  mem : ∀ f ∈ R.fs, f ∈ fs ∨ f.length ≤ buf.length + x.length
theorem Fz.cons {R : Out} {r buf buf' : Bs} {fs : List Bs} {c : UInt8} (h : Fz R r buf' fs) (hb : buf'.length ≤ buf.length + 1) : Fz R (c :: r) buf fs :=
  ⟨Nat.le_trans h.cnt (by simp), fun f hf => by
    rcases h.mem f hf with e | e
    · exact .inl e
    · exact .inr (by simp; omega)⟩
theorem Fz.next {R : Out} {r buf : Bs} {fs : List Bs} {c : UInt8} (h : Fz R r [] (fs ++ [buf])) : Fz R (c :: r) buf fs :=
  ⟨Nat.le_trans h.cnt (by simp; omega), fun f hf => by
    rcases h.mem f hf with e | e
    · rcases List.mem_append.1 e with e | e
      · exact .inl e
      · exact .inr (by rw [List.mem_singleton.1 e]; omega)
    · exact .inr (by simp at e ⊢; omega)⟩
theorem Fz.done {r x buf : Bs} {fs : List Bs} {ln oc : Nat} : Fz ⟨fs ++ [buf], r, ln, oc⟩ x buf fs :=
  ⟨by simp, fun f hf => by
    rcases List.mem_append.1 hf with e | e
    · exact .inl e
    · exact .inr (by rw [List.mem_singleton.1 e]; omega)⟩
theorem Fz.none {r x buf : Bs} {fs : List Bs} {ln oc : Nat} : Fz ⟨[], r, ln, oc⟩ x buf fs := ⟨Nat.zero_le _, fun f hf => by cases hf⟩
theorem fz_all : ∀ (n : Nat) (x : Bs), x.length ≤ n → (∀ buf fs ln, Fz (unq x buf fs ln) x buf fs) ∧ (∀ buf fs ln, Fz (quo x buf fs ln) x buf fs) ∧ (∀ buf fs ln, Fz (aft x buf fs ln) x buf fs) ∧ (∀ fs ln, Fz (fld x fs ln) x [] fs)
  | n, [], _ => by
    refine ⟨fun buf fs ln => ?_, fun buf fs ln => ?_, fun buf fs ln => ?_, fun fs ln => ?_⟩
    · rw [unqN]; exact Fz.done
    · rw [quoN]; exact Fz.none
    · rw [aftN]; exact Fz.done
    · rw [fldN, unqN]; exact Fz.done
  | 0, c :: r, h => absurd h (by simp)
  | n + 1, c :: r, h => by
    obtain ⟨iu, iq, ia, if_⟩ := fz_all n r (by simpa using h)
    have hu : ∀ buf fs ln, Fz (unq (c :: r) buf fs ln) (c :: r) buf fs := fun buf fs ln => by
      rw [unqC]
      split
      · exact (if_ _ _).next
      · split
        · exact Fz.done
        · split
          · exact Fz.none
          · exact (iu _ _ _).cons (by simp)
    refine ⟨hu, fun buf fs ln => ?_, fun buf fs ln => ?_, fun fs ln => ?_⟩
    · rw [quoC]
      split
      · exact (ia _ _ _).cons (by simp)
      · exact (iq _ _ _).cons (by simp)
    · rw [aftC]
      split
      · exact (iq _ _ _).cons (by simp)
      · split
        · exact Fz.done
        · split
          · exact (if_ _ _).next
          · exact Fz.none
    · rw [fldC]
      split
      · exact (iq _ _ _).cons (by simp)
      · exact hu _ _ _
/-- A record has few fields, and small ones. -/
theorem recd_fz (x : Bs) (ln : Nat) : (recd x ln).1.fs.length ≤ x.length + 1 ∧ ∀ f ∈ (recd x ln).1.fs, f.length ≤ x.length := by
  have hs := skipB_facts x ln
  unfold recd
  split
  · exact ⟨Nat.zero_le _, fun f hf => by cases hf⟩
  · next c r l h =>
    rw [h] at hs
    simp only at hs
    have hz := (fz_all _ (c :: r) (Nat.le_refl _)).2.2.2 [] l
    refine ⟨Nat.le_trans hz.cnt (by simp at hs ⊢; omega), fun f hf => ?_⟩
    rcases hz.mem f hf with e | e
    · cases e
    · exact Nat.le_trans e (by simp at hs ⊢; omega)
theorem norm_length : ∀ U : Bs, (norm U).length ≤ U.length
  | [] => Nat.le_refl _
  | c :: r => by
    have ih := norm_length r
    rw [norm]
    split
    · exact Nat.le_succ_of_le ih
    · exact Nat.succ_le_succ ih
end Go.Proofs.Qxb6615582aGreatFmt
