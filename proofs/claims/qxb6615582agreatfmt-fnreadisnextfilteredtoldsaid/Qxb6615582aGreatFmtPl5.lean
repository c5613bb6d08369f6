import Derived.Test.Qxb6615582aGreatFmtPlain
namespace Go.Proofs.Qxb6615582aGreatFmt

/-- Newlines. -/
def nls (x : Bs) : Nat := x.count 10
theorem nls_cons (c : UInt8) (r : Bs) : nls (c :: r) = nls r + if c = 10 then 1 else 0 := by
  unfold nls
  rw [List.count_cons]
  by_cases h : c = 10
  · simp [h]
  · simp [h]
theorem nls_le (x : Bs) : nls x ≤ x.length := List.count_le_length
theorem nls_mem {x : Bs} : 10 ∈ x ↔ 1 ≤ nls x := List.one_le_count_iff.symm

theorem skipL_facts : ∀ x : Bs, (skipL x).length ≤ x.length ∧ ∀ ln, skipN x ln + nls (skipL x) = ln + nls x
  | [] => ⟨Nat.le_refl _, fun ln => by simp [skipL, skipN, nls]⟩
  | c :: r => by
    have ih := skipL_facts r
    by_cases h : c = 10
    · rw [skipL, if_pos h]
      refine ⟨Nat.le_succ _, fun ln => ?_⟩
      rw [skipN, if_pos (by rw [h]; exact List.mem_cons_self), nls_cons, if_pos h]
      omega
    · rw [skipL, if_neg h]
      refine ⟨Nat.le_succ_of_le ih.1, fun ln => ?_⟩
      have h1 := ih.2 ln
      rw [nls_cons, if_neg h, Nat.add_zero, ← h1]
      congr 1
      unfold skipN
      have : 10 ∈ c :: r ↔ 10 ∈ r := by
        rw [List.mem_cons]
        exact ⟨fun e => e.resolve_left (fun e => h e.symm), .inr⟩
      simp only [this]
theorem skipL_lt {c : UInt8} {r : Bs} : (skipL (c :: r)).length ≤ r.length := by
  by_cases h : c = 10
  · rw [skipL, if_pos h]; exact Nat.le_refl _
  · rw [skipL, if_neg h]; exact (skipL_facts r).1
/-- What every piece of the record's reader owes. -/
structure Bd (R : Out) (x : Bs) (ln : Nat) : Prop where
  len : R.rest.length ≤ x.length
  nl : R.ln + nls R.rest = ln + nls x
  oc : R.oc ≠ 1
  oc3 : R.oc ≤ 3
  up : R.rest ≠ [] → ln < R.ln
  fs : R.oc = 0 → R.fs ≠ []
theorem Bd.cons {R : Out} {r : Bs} {ln : Nat} {c : UInt8} (h : Bd R r ln) (hc : c ≠ 10) : Bd R (c :: r) ln :=
  ⟨Nat.le_succ_of_le h.len, by rw [nls_cons, if_neg hc]; exact h.nl, h.oc, h.oc3, h.up, h.fs⟩
theorem Bd.skip {x : Bs} {ln oc : Nat} (ho : oc ≠ 1) (ho3 : oc ≤ 3) (h0 : oc ≠ 0) : Bd ⟨[], skipL x, skipN x ln, oc⟩ x ln :=
  ⟨(skipL_facts x).1, (skipL_facts x).2 ln, ho, ho3, fun h => by
    show ln < skipN x ln
    unfold skipN
    split
    · omega
    · next h2 =>
      exfalso
      apply h
      show skipL x = []
      clear h
      induction x with
      | nil => rfl
      | cons c r ih =>
        rw [skipL, if_neg (fun e => h2 (by rw [e]; exact List.mem_cons_self))]
        exact ih (fun e => h2 (List.mem_cons_of_mem _ e)), fun e => absurd e h0⟩
theorem bd_all : ∀ (n : Nat) (x : Bs), x.length ≤ n → (∀ buf fs ln, Bd (unq x buf fs ln) x ln) ∧ (∀ buf fs ln, Bd (quo x buf fs ln) x ln) ∧ (∀ buf fs ln, Bd (aft x buf fs ln) x ln) ∧ (∀ fs ln, Bd (fld x fs ln) x ln)
  | n, [], _ => by
    have h1 : ∀ buf fs ln, Bd (unq [] buf fs ln) [] ln := fun buf fs ln => by
      rw [unqN]; exact ⟨Nat.le_refl _, rfl, by simp, by simp, fun h => absurd rfl h, fun _ => by simp⟩
    refine ⟨h1, fun buf fs ln => ?_, fun buf fs ln => ?_, fun fs ln => ?_⟩
    · rw [quoN]; exact ⟨Nat.le_refl _, rfl, by simp, by simp, fun h => absurd rfl h, fun h => by simp at h⟩
    · rw [aftN]; exact ⟨Nat.le_refl _, rfl, by simp, by simp, fun h => absurd rfl h, fun _ => by simp⟩
    · rw [fldN]; exact h1 [] fs ln
  | 0, c :: r, h => absurd h (by simp)
  | n + 1, c :: r, h => by
    obtain ⟨iu, iq, ia, if_⟩ := bd_all n r (by simpa using h)
    have hu : ∀ buf fs ln, Bd (unq (c :: r) buf fs ln) (c :: r) ln := fun buf fs ln => by
      rw [unqC]
      by_cases h44 : c = 44
      · rw [if_pos h44]; exact (if_ _ _).cons (by rw [h44]; decide)
      · rw [if_neg h44]
        by_cases h10 : c = 10
        · rw [if_pos h10]
          exact ⟨by simp, by rw [nls_cons, if_pos h10]; simp; omega, by simp, by simp, fun _ => by simp, fun _ => by simp⟩
        · rw [if_neg h10]
          by_cases h34 : c = 34
          · rw [if_pos h34]; exact Bd.skip (by decide) (by decide) (by decide)
          · rw [if_neg h34]; exact (iu _ _ _).cons h10
    refine ⟨hu, fun buf fs ln => ?_, fun buf fs ln => ?_, fun fs ln => ?_⟩
    · rw [quoC]
      by_cases h34 : c = 34
      · rw [if_pos h34]; exact (ia _ _ _).cons (by rw [h34]; decide)
      · rw [if_neg h34]
        by_cases h10 : c = 10
        · rw [if_pos h10]
          have := iq (buf ++ [c]) fs (ln + 1)
          exact ⟨Nat.le_succ_of_le this.len, by rw [nls_cons, if_pos h10, this.nl]; omega, this.oc, this.oc3, fun h => Nat.lt_of_succ_lt (this.up h), this.fs⟩
        · rw [if_neg h10]; exact (iq _ _ _).cons h10
    · rw [aftC]
      by_cases h34 : c = 34
      · rw [if_pos h34]; exact (iq _ _ _).cons (by rw [h34]; decide)
      · rw [if_neg h34]
        by_cases h10 : c = 10
        · rw [if_pos h10]
          exact ⟨by simp, by rw [nls_cons, if_pos h10]; simp; omega, by simp, by simp, fun _ => by simp, fun _ => by simp⟩
        · rw [if_neg h10]
          by_cases h44 : c = 44
          · rw [if_pos h44]; exact (if_ _ _).cons h10
          · rw [if_neg h44]; exact Bd.skip (by decide) (by decide) (by decide)
    · rw [fldC]
      by_cases h34 : c = 34
      · rw [if_pos h34]; exact (iq _ _ _).cons (by rw [h34]; decide)
      · rw [if_neg h34]; exact hu _ _ _
theorem bd_fld (x : Bs) (fs : List Bs) (ln : Nat) : Bd (fld x fs ln) x ln := (bd_all _ x (Nat.le_refl _)).2.2.2 fs ln
theorem fld_lt (c : UInt8) (r : Bs) (fs : List Bs) (ln : Nat) : (fld (c :: r) fs ln).rest.length ≤ r.length := by
  have ha := bd_all _ r (Nat.le_refl _)
  rw [fldC]
  split
  · exact (ha.2.1 _ _ _).len
  · rw [unqC]
    split
    · exact (ha.2.2.2 _ _).len
    · split
      · exact Nat.le_refl _
      · exact (ha.1 _ _ _).len
theorem skipB_facts : ∀ (x : Bs) (ln : Nat), (skipB x ln).1.length ≤ x.length ∧ (skipB x ln).2 + nls (skipB x ln).1 = ln + nls x ∧ ln ≤ (skipB x ln).2
  | [], ln => ⟨Nat.le_refl _, rfl, Nat.le_refl _⟩
  | c :: r, ln => by
    rw [skipB]
    split
    · next h =>
      have := skipB_facts r (ln + 1)
      exact ⟨Nat.le_succ_of_le this.1, by rw [nls_cons, if_pos h, this.2.1]; omega, by omega⟩
    · exact ⟨Nat.le_refl _, rfl, Nat.le_refl _⟩
/-- What a record leaves. -/
structure Rcb (X : Out × Nat) (x : Bs) (ln : Nat) : Prop where
  len : X.1.rest.length ≤ x.length
  lt : X.1.oc ≠ 1 → X.1.rest.length < x.length
  nl : X.1.ln + nls X.1.rest = ln + nls x
  oc3 : X.1.oc ≤ 3
  st : ln ≤ X.2
  top : X.1.oc ≠ 1 → X.2 ≤ ln + nls x
  up : X.1.rest ≠ [] → X.2 < X.1.ln
  ge : X.2 ≤ X.1.ln
  fs : X.1.oc = 0 → X.1.fs ≠ []
theorem recd_rb (x : Bs) (ln : Nat) : Rcb (recd x ln) x ln := by
  have hs := skipB_facts x ln
  unfold recd
  split
  · next l h =>
    rw [h] at hs
    simp only [nls, List.count_nil] at hs
    exact ⟨Nat.zero_le _, fun e => absurd rfl e, by simp [nls]; simp at hs; omega, by simp, hs.2.2, fun e => absurd rfl e, fun e => absurd rfl e, Nat.le_refl _, fun e => by simp at e⟩
  · next c r l h =>
    rw [h] at hs
    simp only at hs
    have hb := bd_fld (c :: r) [] l
    have h1 := fld_lt c r [] l
    refine ⟨Nat.le_trans hb.len hs.1, fun _ => ?_, by rw [hb.nl]; exact hs.2.1, hb.oc3, hs.2.2, fun _ => by show l ≤ _; omega, hb.up, ?_, hb.fs⟩
    · have := hs.1
      simp at this
      exact Nat.lt_of_le_of_lt h1 (by omega)
    · show l ≤ (fld (c :: r) [] l).ln
      rcases Classical.em ((fld (c :: r) [] l).rest = []) with e | e
      · have := hb.nl
        rw [e] at this
        simp [nls] at this
        omega
      · exact Nat.le_of_lt (hb.up e)
theorem nls_norm : ∀ U : Bs, nls (norm U) = nls U
  | [] => rfl
  | c :: r => by
    have ih := nls_norm r
    rw [norm]
    split
    · next h => rw [ih, nls_cons, if_neg (by rw [h.1]; decide)]; rfl
    · rw [nls_cons, nls_cons, ih]
end Go.Proofs.Qxb6615582aGreatFmt
