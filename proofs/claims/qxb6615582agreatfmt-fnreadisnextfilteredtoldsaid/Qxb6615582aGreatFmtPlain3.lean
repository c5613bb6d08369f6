import Derived.Test.Qxb6615582aGreatFmtPlain2
namespace Go.Proofs.Qxb6615582aGreatFmt

/-- The state at the start of a field: the line at hand, the text unread, the line count. -/
structure Fd (R : Out) (l U : Bs) (fs : List Bs) (n : Nat) : Prop where
  eq : fld (l ++ norm U) fs n = R
  ln : Ln l U
/-- The state inside quotes. -/
structure Qd (R : Out) (l U : Bs) (buf : Bs) (fs : List Bs) (n : Nat) : Prop where
  eq : ∃ ln, quo (l ++ norm U) buf fs ln = R ∧ (l ++ norm U ≠ [] → ln = n)
  ln : Ln l U

theorem app_head {a b : Bs} (h : a ≠ []) : (a ++ b).head? = a.head? := by
  cases a with
  | nil => exact absurd rfl h
  | cons c r => rfl
theorem Ln_nil {U : Bs} (h : Ln [] U) : U = [] := by
  rcases h with ⟨a, h1, _⟩ | ⟨_, h2⟩
  · cases a <;> cases h1
  · exact h2
theorem Fd.asU {R : Out} {l U : Bs} {fs : List Bs} {n : Nat} (h : Fd R l U fs n) (hq : l.head? ≠ some 34) : unq (l ++ norm U) [] fs n = R := by
  rw [← h.eq, fld_u]
  cases l with
  | nil => rw [Ln_nil h.ln]; simp [norm]
  | cons c r => exact hq

/-- A field without quotes, a comma behind it. -/
theorem Fd.comma {R : Out} {a l U : Bs} {fs : List Bs} {n : Nat} (h : Fd R (a ++ 44 :: l) U fs n) (h44 : 44 ∉ a) (h34 : 34 ∉ a) : Fd R l U (fs ++ [a]) n := by
  have h10 := Ln_front h.ln (by simp)
  have h1 := h.asU (by
    cases a with
    | nil => simp
    | cons c r => intro e; simp at e; exact h34 (by simp [e]))
  rw [List.append_assoc, unq_run a _ _ _ _ h44 h10 h34, List.nil_append, List.cons_append, unq_comma] at h1
  exact ⟨h1, Ln_drop (a := a ++ [44]) (by rw [List.append_assoc]; exact h.ln) (by
    by_cases hl : l = []
    · exact .inr (by
        intro hm
        rcases List.mem_append.1 hm with e | e
        · exact h10 e
        · simp at e)
    · exact .inl hl)⟩
/-- A bare quote, a comma behind it. -/
theorem Fd.bare {R : Out} {a l U : Bs} {fs : List Bs} {n : Nat} (h : Fd R (a ++ 44 :: l) U fs n) (h44 : 44 ∉ a) (h34 : 34 ∈ a) (hq : a.head? ≠ some 34) : Done R U n 3 [] := by
  have h10 := Ln_front h.ln (by simp)
  have h1 := h.asU (by rw [app_head (by rintro rfl; cases h34)]; exact hq)
  rw [List.append_assoc, unq_bare a _ _ _ _ h44 h10 h34] at h1
  have h2 := skip_Ln (Ln_drop (a := a) h.ln (.inr h10)) n
  rw [← h1]
  exact ⟨h2.1, h2.2, rfl, rfl⟩
/-- The last field of a line. -/
theorem Fd.last {R : Out} {a z U : Bs} {fs : List Bs} {n : Nat} (h : Fd R (a ++ z) U fs n) (hz : z = [10] ∨ (z = [] ∧ 10 ∉ a)) (h44 : 44 ∉ a) (h34 : 34 ∉ a) : Done R U n 0 (fs ++ [a]) := by
  have h1 := h.asU (by
    cases a with
    | nil => rcases hz with rfl | ⟨rfl, _⟩ <;> simp
    | cons c r => intro e; simp at e; exact h34 (by simp [e]))
  rcases hz with rfl | ⟨rfl, h10⟩
  · have h10 := Ln_front h.ln (by simp)
    rw [List.append_assoc, unq_run a _ _ _ _ h44 h10 h34, List.nil_append, List.cons_append, unq_nl] at h1
    rw [← h1]
    exact ⟨rfl, fun _ => rfl, rfl, rfl⟩
  · have hU := Ln_nil (Ln_drop (a := a) h.ln (.inr h10))
    subst hU
    rw [List.append_assoc, unq_run a _ _ _ _ h44 h10 h34, List.nil_append] at h1
    rw [← h1]
    show Done (unq [] a fs n) [] n 0 _
    rw [unq_nil]
    exact ⟨rfl, fun hn => absurd rfl hn, rfl, rfl⟩
/-- A bare quote in the last field. -/
theorem Fd.bareLast {R : Out} {a z U : Bs} {fs : List Bs} {n : Nat} (h : Fd R (a ++ z) U fs n) (hz : z = [10] ∨ (z = [] ∧ 10 ∉ a)) (h44 : 44 ∉ a) (h34 : 34 ∈ a) (hq : a.head? ≠ some 34) : Done R U n 3 [] := by
  have h10 : 10 ∉ a := by
    rcases hz with rfl | ⟨rfl, h10⟩
    · exact Ln_front h.ln (by simp)
    · exact h10
  have h1 := h.asU (by rw [app_head (by rintro rfl; cases h34)]; exact hq)
  rw [List.append_assoc, unq_bare a _ _ _ _ h44 h10 h34] at h1
  have h2 := skip_Ln (Ln_drop (a := a) h.ln (.inr h10)) n
  rw [← h1]
  exact ⟨h2.1, h2.2, rfl, rfl⟩
/-- A quote opens the field. -/
theorem Fd.quote {R : Out} {l U : Bs} {fs : List Bs} {n : Nat} (h : Fd R (34 :: l) U fs n) : Qd R l U [] fs n := by
  refine ⟨⟨n, ?_, fun _ => rfl⟩, Ln_drop (a := [34]) h.ln (.inr (by simp))⟩
  rw [← h.eq]
  show _ = fld (34 :: (l ++ norm U)) fs n
  rw [fld_q]

theorem Qd.run {R : Out} {a l U buf : Bs} {fs : List Bs} {n : Nat} (h : Qd R (a ++ 34 :: l) U buf fs n) (h34 : 34 ∉ a) : aft (l ++ norm U) (buf ++ a) fs n = R ∧ Ln l U ∧ 10 ∉ a := by
  have h10 := Ln_front h.ln (by simp)
  obtain ⟨ln, h1, h2⟩ := h.eq
  obtain rfl := h2 (by simp)
  rw [List.append_assoc, quo_run a _ _ _ _ h34 h10, List.cons_append, quo_q] at h1
  exact ⟨h1, Ln_drop (a := a ++ [34]) (by rw [List.append_assoc]; exact h.ln) (.inr (by
    intro hm
    rcases List.mem_append.1 hm with e | e
    · exact h10 e
    · simp at e)), h10⟩
theorem Qd.pair {R : Out} {a l U buf : Bs} {fs : List Bs} {n : Nat} (h : Qd R (a ++ 34 :: 34 :: l) U buf fs n) (h34 : 34 ∉ a) : Qd R l U ((buf ++ a) ++ [34]) fs n := by
  obtain ⟨h1, h2, _⟩ := h.run h34
  rw [List.cons_append, aft_q] at h1
  exact ⟨⟨n, h1, fun _ => rfl⟩, Ln_drop (a := [34]) h2 (.inr (by simp))⟩
theorem Qd.comma {R : Out} {a l U buf : Bs} {fs : List Bs} {n : Nat} (h : Qd R (a ++ 34 :: 44 :: l) U buf fs n) (h34 : 34 ∉ a) : Fd R l U (fs ++ [buf ++ a]) n := by
  obtain ⟨h1, h2, _⟩ := h.run h34
  rw [List.cons_append, aft_comma] at h1
  exact ⟨h1, Ln_drop (a := [44]) h2 (.inr (by simp))⟩
theorem Qd.last {R : Out} {a z U buf : Bs} {fs : List Bs} {n : Nat} (h : Qd R (a ++ 34 :: z) U buf fs n) (h34 : 34 ∉ a) (hz : z = [10] ∨ z = []) : Done R U n 0 (fs ++ [buf ++ a]) := by
  obtain ⟨h1, h2, _⟩ := h.run h34
  rcases hz with rfl | rfl
  · rw [List.cons_append, List.nil_append, aft_nl] at h1
    rw [← h1]
    exact ⟨rfl, fun _ => rfl, rfl, rfl⟩
  · have hU := Ln_nil h2
    subst hU
    rw [← h1]
    show Done (aft [] _ _ _) _ _ _ _
    rw [aft_nil]
    exact ⟨rfl, fun hn => absurd rfl hn, rfl, rfl⟩
theorem Qd.fault {R : Out} {a l U buf : Bs} {d : UInt8} {fs : List Bs} {n : Nat} (h : Qd R (a ++ 34 :: d :: l) U buf fs n) (h34 : 34 ∉ a) (hd1 : d ≠ 34) (hd2 : d ≠ 44) (hd3 : d = 10 → l ≠ []) : Done R U n 2 [] := by
  obtain ⟨h1, h2, _⟩ := h.run h34
  have hd : d ≠ 10 := by
    intro e
    exact Ln_front (a := [d]) (l := l) h2 (hd3 e) (by simp [e])
  have h3 := skip_Ln h2 n
  rw [List.cons_append] at h3
  rw [List.cons_append, aft_other _ _ _ _ hd1 hd hd2] at h1
  rw [← h1]
  exact ⟨h3.1, h3.2, rfl, rfl⟩
/-- The line's end inside quotes: the next line is read. -/
theorem Qd.next {R : Out} {l U buf : Bs} {fs : List Bs} {n : Nat} (h : Qd R l U buf fs n) (h34 : 34 ∉ l) (hl : l ≠ []) : Qd R (trimCR (raw U).1) (raw U).2 (buf ++ l) fs (n + 1) := by
  obtain ⟨ln, h1, h2⟩ := h.eq
  obtain rfl := h2 (by cases l; exact absurd rfl hl; simp)
  obtain ⟨e1, e2⟩ := line_norm U
  refine ⟨?_, e2⟩
  rw [← e1]
  rcases h.ln with ⟨a, rfl, h10⟩ | ⟨h10, rfl⟩
  · have h34' : 34 ∉ a := fun hm => h34 (List.mem_append_left _ hm)
    rw [List.append_assoc, quo_run a _ _ _ _ h34' h10] at h1
    show ∃ _, _
    rw [show [10] ++ norm U = 10 :: norm U from rfl, quo_other _ _ _ _ (by decide), if_pos rfl] at h1
    exact ⟨ln + 1, by rw [← List.append_assoc]; exact h1, fun _ => rfl⟩
  · rw [quo_run l _ _ _ _ h34 h10] at h1
    exact ⟨ln, h1, fun hn => absurd rfl hn⟩
theorem Qd.eof {R : Out} {U buf : Bs} {fs : List Bs} {n : Nat} (h : Qd R [] U buf fs n) : Done R U n 2 [] := by
  have hU := Ln_nil h.ln
  subst hU
  obtain ⟨ln, h1, _⟩ := h.eq
  rw [← h1]
  show Done (quo [] _ _ _) _ _ _ _
  rw [quo_nil]
  exact ⟨rfl, fun hn => absurd rfl hn, rfl, rfl⟩

/-- Between records: the model's text and line, and the reader's. -/
structure St (x : Bs) (ln : Nat) (U : Bs) (n : Nat) : Prop where
  eq : x = norm U
  ln : norm U ≠ [] → ln = n + 1
theorem Done.st {R : Out} {U : Bs} {n oc : Nat} {fs : List Bs} (h : Done R U n oc fs) : St R.rest R.ln U n := ⟨h.rest, h.ln⟩

/-- A blank line is passed over. -/
theorem St.blank {x : Bs} {ln n : Nat} {U : Bs} (h : St x ln U n) (hl : trimCR (raw U).1 = [10] ∨ trimCR (raw U).1 = []) : ∃ x' ln', recd x ln = recd x' ln' ∧ St x' ln' (raw U).2 (n + 1) := by
  obtain ⟨e1, e2⟩ := line_norm U
  rcases hl with hl | hl
  · rw [hl] at e1
    have hln := h.ln (by rw [e1]; simp)
    refine ⟨norm (raw U).2, ln + 1, ?_, rfl, fun _ => by omega⟩
    rw [h.eq, e1]
    unfold recd
    show (match skipB (10 :: norm (raw U).2) ln with | ([], l) => _ | (c :: r, l) => _) = _
    rw [skipB, if_pos rfl]
    rfl
  · rw [hl] at e1 e2
    have h2 := Ln_nil e2
    rw [h2] at e1
    refine ⟨x, ln, rfl, by rw [h.eq, e1, h2]; rfl, fun hn => by rw [h2] at hn; exact absurd rfl hn⟩
/-- The end. -/
theorem St.eof {x : Bs} {ln n : Nat} (h : St x ln [] n) : (recd x ln).1.oc = 1 ∧ (recd x ln).1.rest = [] := by
  rw [h.eq]
  show (recd [] ln).1.oc = 1 ∧ _
  unfold recd
  rw [skipB]
  exact ⟨rfl, rfl⟩
/-- A record begins. -/
theorem St.begins {x : Bs} {ln n : Nat} {U : Bs} (h : St x ln U n) (hl : trimCR (raw U).1 ≠ [10]) (hl2 : trimCR (raw U).1 ≠ []) : (recd x ln).2 = n + 1 ∧ Fd (recd x ln).1 (trimCR (raw U).1) (raw U).2 [] (n + 1) := by
  obtain ⟨e1, e2⟩ := line_norm U
  have hne : norm U ≠ [] := by
    rw [e1]
    intro hn
    exact hl2 (List.append_eq_nil_iff.1 hn).1
  have hln := h.ln hne
  cases hc : trimCR (raw U).1 with
  | nil => exact absurd hc hl2
  | cons c r =>
    have hc10 : c ≠ 10 := by
      rintro rfl
      rw [hc] at e2
      by_cases hr : r = []
      · exact hl (by rw [hc, hr])
      · exact Ln_front (a := [10]) (l := r) e2 hr (by simp)
    have e3 : recd x ln = (fld (norm U) [] ln, ln) := by
      rw [h.eq, e1, hc]
      unfold recd
      show (match skipB (c :: (r ++ norm (raw U).2)) ln with | ([], l) => _ | (c :: r, l) => _) = _
      rw [skipB, if_neg hc10]
      rfl
    rw [e3, ← hc]
    refine ⟨hln, ?_, e2⟩
    rw [← e1, hln]
end Go.Proofs.Qxb6615582aGreatFmt
