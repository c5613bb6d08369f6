import Derived.Test.Qxb6615582aGreatFmtPlain
namespace Go.Proofs.Qxb6615582aGreatFmt

theorem trimCR_nl {a : Bs} (h : 10 ∉ a) : ∃ b, trimCR (a ++ [10]) = b ++ [10] ∧ 10 ∉ b := by
  unfold trimCR
  simp only [List.reverse_append, List.reverse_cons, List.reverse_nil, List.nil_append, List.cons_append]
  cases hb : a.reverse with
  | nil => exact ⟨[], by obtain rfl : a = [] := List.reverse_eq_nil_iff.1 hb; rfl, by simp⟩
  | cons e b =>
    have hmem : ∀ x ∈ b, x ≠ 10 := fun x hx ex => h (List.mem_reverse.1 (by rw [hb, ← ex]; exact List.mem_cons_of_mem _ hx))
    by_cases he : e = 13
    · subst he
      exact ⟨b.reverse, by simp, fun hm => hmem 10 (List.mem_reverse.1 hm) rfl⟩
    · refine ⟨a, ?_, h⟩
      split
      · next h1 => simp at h1
      · next h1 => simp at h1; exact absurd h1.1 he
      · rfl
theorem trimCR_mem {a : Bs} (h : 10 ∉ a) : 10 ∉ trimCR a := by
  unfold trimCR
  split
  · next r h1 =>
    intro hm
    have : (10 : UInt8) ∈ a.reverse := by rw [h1]; exact List.mem_cons_of_mem _ (List.mem_reverse.1 hm)
    exact h (List.mem_reverse.1 this)
  · next r h1 =>
    exact absurd (List.mem_reverse.1 (by rw [h1]; simp)) h
  · exact h

/-- What readLine makes of the text. -/
theorem line_norm (U : Bs) : norm U = trimCR (raw U).1 ++ norm (raw U).2 ∧ Ln (trimCR (raw U).1) (raw U).2 := by
  rcases raw_Ln U with ⟨a, h1, h2⟩ | ⟨h1, h2⟩
  · obtain ⟨b, hb1, hb2⟩ := trimCR_nl h2
    refine ⟨?_, .inl ⟨b, by rw [h1, hb1], hb2⟩⟩
    have e := raw_app U
    rw [h1] at e ⊢
    rw [← norm_line a _ h2]
    rw [List.append_assoc] at e
    exact congrArg norm e
  · refine ⟨?_, .inr ⟨trimCR_mem h1, h2⟩⟩
    have e := raw_app U
    rw [h2, List.append_nil] at e
    rw [h2]
    show norm U = trimCR (raw U).1 ++ []
    rw [List.append_nil, ← norm_last _ h1, ← e]

theorem skipL_app : ∀ {s : Bs} (x : Bs), 10 ∉ s → skipL (s ++ x) = skipL x
  | [], _, _ => rfl
  | c :: s, x, h => by
    show skipL (c :: (s ++ x)) = _
    rw [skipL, if_neg (fun e => h (by simp [e])), skipL_app x (fun hm => h (List.mem_cons_of_mem _ hm))]
theorem skipN_app {s : Bs} (x : Bs) (ln : Nat) (h : 10 ∉ s) : skipN (s ++ x) ln = skipN x ln := by
  unfold skipN
  by_cases hx : (10 : UInt8) ∈ x
  · rw [if_pos (List.mem_append_right _ hx), if_pos hx]
  · rw [if_neg (fun hm => by rcases List.mem_append.1 hm with e | e; exact h e; exact hx e), if_neg hx]

/-- The state behind a record: what is unread, the line count n. -/
structure Done (R : Out) (U : Bs) (n : Nat) (oc : Nat) (fs : List Bs) : Prop where
  rest : R.rest = norm U
  ln : norm U ≠ [] → R.ln = n + 1
  oc : R.oc = oc
  fs : R.fs = fs

/-- The rest of a line passed over. -/
theorem skip_Ln {l U : Bs} (h : Ln l U) (n : Nat) : skipL (l ++ norm U) = norm U ∧ (norm U ≠ [] → skipN (l ++ norm U) n = n + 1) := by
  rcases h with ⟨a, rfl, h2⟩ | ⟨h1, rfl⟩
  · rw [List.append_assoc, skipL_app _ h2]
    refine ⟨by show skipL (10 :: norm U) = _; rw [skipL, if_pos rfl], fun _ => ?_⟩
    unfold skipN
    rw [if_pos (by simp)]
  · refine ⟨?_, fun hn => absurd rfl hn⟩
    rw [skipL_app _ h1]; rfl

theorem Ln_drop {a l U : Bs} (h : Ln (a ++ l) U) (hl : l ≠ [] ∨ 10 ∉ a) : Ln l U := by
  rcases h with ⟨b, h1, h2⟩ | ⟨h1, h2⟩
  · rcases List.eq_nil_or_concat l with e | ⟨l', z, e⟩
    · rcases hl with hl | hl
      · exact absurd e hl
      · subst e
        rw [List.append_nil] at h1
        exact absurd (by rw [h1]; simp) hl
    · rw [List.concat_eq_append] at e
      subst e
      rw [← List.append_assoc] at h1
      have h3 := List.append_inj' h1 rfl
      obtain ⟨h4, h5⟩ := h3
      refine .inl ⟨l', by rw [h5], fun hm => h2 (by rw [← h4]; exact List.mem_append_right _ hm)⟩
  · exact .inr ⟨fun hm => h1 (List.mem_append_right _ hm), h2⟩
/-- What stands before more of the line holds no newline. -/
theorem Ln_front {a l U : Bs} (h : Ln (a ++ l) U) (hl : l ≠ []) : 10 ∉ a := by
  rcases h with ⟨b, h1, h2⟩ | ⟨h1, h2⟩
  · rcases List.eq_nil_or_concat l with e | ⟨l', z, e⟩
    · exact absurd e hl
    · rw [List.concat_eq_append] at e
      subst e
      rw [← List.append_assoc] at h1
      have h3 := List.append_inj' h1 rfl
      intro hm
      exact h2 (by rw [← h3.1]; exact List.mem_append_left _ hm)
  · exact fun hm => h1 (List.mem_append_left _ hm)

theorem unq_nil (buf : Bs) (fs : List Bs) (ln : Nat) : unq [] buf fs ln = ⟨fs ++ [buf], [], ln, 0⟩ := by rw [unqN]
theorem unq_comma (r buf : Bs) (fs : List Bs) (ln : Nat) : unq (44 :: r) buf fs ln = fld r (fs ++ [buf]) ln := by rw [unqC, if_pos rfl]
theorem unq_nl (r buf : Bs) (fs : List Bs) (ln : Nat) : unq (10 :: r) buf fs ln = ⟨fs ++ [buf], r, ln + 1, 0⟩ := by rw [unqC, if_neg (by decide), if_pos rfl]
theorem unq_q (r buf : Bs) (fs : List Bs) (ln : Nat) : unq (34 :: r) buf fs ln = ⟨[], skipL (34 :: r), skipN (34 :: r) ln, 3⟩ := by rw [unqC, if_neg (by decide), if_neg (by decide), if_pos rfl]
theorem unq_other {c : UInt8} (r buf : Bs) (fs : List Bs) (ln : Nat) (h1 : c ≠ 44) (h2 : c ≠ 10) (h3 : c ≠ 34) : unq (c :: r) buf fs ln = unq r (buf ++ [c]) fs ln := by rw [unqC, if_neg h1, if_neg h2, if_neg h3]
theorem quo_nil (buf : Bs) (fs : List Bs) (ln : Nat) : quo [] buf fs ln = ⟨[], [], ln, 2⟩ := by rw [quoN]
theorem quo_q (r buf : Bs) (fs : List Bs) (ln : Nat) : quo (34 :: r) buf fs ln = aft r buf fs ln := by rw [quoC, if_pos rfl]
theorem quo_other {c : UInt8} (r buf : Bs) (fs : List Bs) (ln : Nat) (h : c ≠ 34) : quo (c :: r) buf fs ln = quo r (buf ++ [c]) fs (if c = 10 then ln + 1 else ln) := by rw [quoC, if_neg h]
theorem aft_nil (buf : Bs) (fs : List Bs) (ln : Nat) : aft [] buf fs ln = ⟨fs ++ [buf], [], ln, 0⟩ := by rw [aftN]
theorem aft_q (r buf : Bs) (fs : List Bs) (ln : Nat) : aft (34 :: r) buf fs ln = quo r (buf ++ [34]) fs ln := by rw [aftC, if_pos rfl]
theorem aft_nl (r buf : Bs) (fs : List Bs) (ln : Nat) : aft (10 :: r) buf fs ln = ⟨fs ++ [buf], r, ln + 1, 0⟩ := by rw [aftC, if_neg (by decide), if_pos rfl]
theorem aft_comma (r buf : Bs) (fs : List Bs) (ln : Nat) : aft (44 :: r) buf fs ln = fld r (fs ++ [buf]) ln := by rw [aftC, if_neg (by decide), if_neg (by decide), if_pos rfl]
theorem aft_other {d : UInt8} (r buf : Bs) (fs : List Bs) (ln : Nat) (h1 : d ≠ 34) (h2 : d ≠ 10) (h3 : d ≠ 44) : aft (d :: r) buf fs ln = ⟨[], skipL (d :: r), skipN (d :: r) ln, 2⟩ := by rw [aftC, if_neg h1, if_neg h2, if_neg h3]
theorem fld_q (r : Bs) (fs : List Bs) (ln : Nat) : fld (34 :: r) fs ln = quo r [] fs ln := by rw [fldC, if_pos rfl]
theorem fld_u {x : Bs} (fs : List Bs) (ln : Nat) (h : x.head? ≠ some 34) : fld x fs ln = unq x [] fs ln := by
  cases x with
  | nil => rw [fldN]
  | cons c r => rw [fldC, if_neg (fun e => h (by rw [e]; rfl))]

theorem unq_run : ∀ (a x buf : Bs) (fs : List Bs) (ln : Nat), 44 ∉ a → 10 ∉ a → 34 ∉ a → unq (a ++ x) buf fs ln = unq x (buf ++ a) fs ln
  | [], x, buf, fs, ln, _, _, _ => by rw [List.nil_append, List.append_nil]
  | c :: a, x, buf, fs, ln, h1, h2, h3 => by
    show unq (c :: (a ++ x)) buf fs ln = _
    rw [unq_other _ _ _ _ (fun e => h1 (by simp [e])) (fun e => h2 (by simp [e])) (fun e => h3 (by simp [e])), unq_run a x _ fs ln (fun hm => h1 (List.mem_cons_of_mem _ hm)) (fun hm => h2 (List.mem_cons_of_mem _ hm)) (fun hm => h3 (List.mem_cons_of_mem _ hm)), List.append_assoc]
    rfl
theorem unq_bare : ∀ (a x buf : Bs) (fs : List Bs) (ln : Nat), 44 ∉ a → 10 ∉ a → 34 ∈ a → unq (a ++ x) buf fs ln = ⟨[], skipL x, skipN x ln, 3⟩
  | [], x, buf, fs, ln, _, _, h => by cases h
  | c :: a, x, buf, fs, ln, h1, h2, h3 => by
    show unq (c :: (a ++ x)) buf fs ln = _
    by_cases hc : c = 34
    · subst hc
      rw [unq_q]
      have e1 := skipL_app (s := 34 :: a) x h2
      have e2 := skipN_app (s := 34 :: a) x ln h2
      simp only [List.cons_append] at e1 e2
      rw [e1, e2]
    · rw [unq_other _ _ _ _ (fun e => h1 (by simp [e])) (fun e => h2 (by simp [e])) hc]
      exact unq_bare a x _ fs ln (fun hm => h1 (List.mem_cons_of_mem _ hm)) (fun hm => h2 (List.mem_cons_of_mem _ hm)) (by rcases List.mem_cons.1 h3 with e | e; exact absurd e.symm hc; exact e)
theorem quo_run : ∀ (a x buf : Bs) (fs : List Bs) (ln : Nat), 34 ∉ a → 10 ∉ a → quo (a ++ x) buf fs ln = quo x (buf ++ a) fs ln
  | [], x, buf, fs, ln, _, _ => by rw [List.nil_append, List.append_nil]
  | c :: a, x, buf, fs, ln, h1, h2 => by
    show quo (c :: (a ++ x)) buf fs ln = _
    rw [quo_other _ _ _ _ (fun e => h1 (by simp [e])), if_neg (fun e => h2 (by simp [e])), quo_run a x _ fs ln (fun hm => h1 (List.mem_cons_of_mem _ hm)) (fun hm => h2 (List.mem_cons_of_mem _ hm)), List.append_assoc]
    rfl
end Go.Proofs.Qxb6615582aGreatFmt
