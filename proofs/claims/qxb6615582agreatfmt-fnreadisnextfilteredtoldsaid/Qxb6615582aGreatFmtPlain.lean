namespace Go.Proofs.Qxb6615582aGreatFmt

abbrev Bs := List UInt8

/-- zzNorm behind the mark: a carriage return before a newline or at the end is dropped. -/
def norm : Bs → Bs
  | [] => []
  | c :: r => if c = 13 ∧ (r = [] ∨ r.head? = some 10) then norm r else c :: norm r

/-- Where a line ends. -/
def skipL : Bs → Bs
  | [] => []
  | c :: r => if c = 10 then r else skipL r
def skipN (x : Bs) (ln : Nat) : Nat := if 10 ∈ x then ln + 1 else ln

/-- A record's outcome: 0 whole, 1 the end, 2 a quote fault, 3 a bare quote. -/
structure Out where
  fs : List Bs
  rest : Bs
  ln : Nat
  oc : Nat

/-- The record's reader, by its mode: 0 at the start of a field, 1 in a field without quotes, 2 inside quotes, 3 behind a quote mark inside quotes. -/
def rcd : Bs → Nat → Bs → List Bs → Nat → Out
  | [], m, buf, fs, ln => if m = 2 then ⟨[], [], ln, 2⟩ else ⟨fs ++ [buf], [], ln, 0⟩
  | c :: r, m, buf, fs, ln =>
    if m = 2 then (if c = 34 then rcd r 3 buf fs ln else rcd r 2 (buf ++ [c]) fs (if c = 10 then ln + 1 else ln))
    else if m = 3 then (if c = 34 then rcd r 2 (buf ++ [34]) fs ln else if c = 10 then ⟨fs ++ [buf], r, ln + 1, 0⟩ else if c = 44 then rcd r 0 [] (fs ++ [buf]) ln else ⟨[], skipL (c :: r), skipN (c :: r) ln, 2⟩)
    else if m = 0 ∧ c = 34 then rcd r 2 [] fs ln
    else if c = 44 then rcd r 0 [] (fs ++ [buf]) ln else if c = 10 then ⟨fs ++ [buf], r, ln + 1, 0⟩ else if c = 34 then ⟨[], skipL (c :: r), skipN (c :: r) ln, 3⟩ else rcd r 1 (buf ++ [c]) fs ln
/-- At the start of a field. -/
def fld (x : Bs) (fs : List Bs) (ln : Nat) : Out := rcd x 0 [] fs ln
/-- In a field without quotes. -/
def unq (x : Bs) (buf : Bs) (fs : List Bs) (ln : Nat) : Out := rcd x 1 buf fs ln
/-- Inside quotes. -/
def quo (x : Bs) (buf : Bs) (fs : List Bs) (ln : Nat) : Out := rcd x 2 buf fs ln
/-- Behind a quote mark inside quotes. -/
def aft (x : Bs) (buf : Bs) (fs : List Bs) (ln : Nat) : Out := rcd x 3 buf fs ln
section
variable (c : UInt8) (r buf : Bs) (fs : List Bs) (ln : Nat)
theorem unqN : unq [] buf fs ln = ⟨fs ++ [buf], [], ln, 0⟩ := by simp [unq, rcd]
theorem unqC : unq (c :: r) buf fs ln = if c = 44 then fld r (fs ++ [buf]) ln else if c = 10 then ⟨fs ++ [buf], r, ln + 1, 0⟩ else if c = 34 then ⟨[], skipL (c :: r), skipN (c :: r) ln, 3⟩ else unq r (buf ++ [c]) fs ln := by
  unfold unq fld
  rw [rcd, if_neg (by decide), if_neg (by decide), if_neg (by simp)]
theorem quoN : quo [] buf fs ln = ⟨[], [], ln, 2⟩ := by simp [quo, rcd]
theorem quoC : quo (c :: r) buf fs ln = if c = 34 then aft r buf fs ln else quo r (buf ++ [c]) fs (if c = 10 then ln + 1 else ln) := by
  unfold quo aft
  rw [rcd, if_pos rfl]
theorem aftN : aft [] buf fs ln = ⟨fs ++ [buf], [], ln, 0⟩ := by simp [aft, rcd]
theorem aftC : aft (c :: r) buf fs ln = if c = 34 then quo r (buf ++ [34]) fs ln else if c = 10 then ⟨fs ++ [buf], r, ln + 1, 0⟩ else if c = 44 then fld r (fs ++ [buf]) ln else ⟨[], skipL (c :: r), skipN (c :: r) ln, 2⟩ := by
  unfold aft quo fld
  rw [rcd, if_neg (by decide), if_pos rfl]
theorem fldN : fld [] fs ln = unq [] [] fs ln := by simp [fld, unq, rcd]
theorem fldC : fld (c :: r) fs ln = if c = 34 then quo r [] fs ln else unq (c :: r) [] fs ln := by
  by_cases h : c = 34
  · rw [if_pos h]
    unfold fld quo
    rw [rcd, if_neg (by decide), if_neg (by decide), if_pos ⟨rfl, h⟩]
  · rw [if_neg h]
    unfold fld unq
    simp [rcd, h]
end

/-- Blank lines passed over. -/
def skipB : Bs → Nat → Bs × Nat
  | [], ln => ([], ln)
  | c :: r, ln => if c = 10 then skipB r (ln + 1) else (c :: r, ln)

/-- The record at x: its outcome and the line where it starts. -/
def recd (x : Bs) (ln : Nat) : Out × Nat :=
  match skipB x ln with
  | ([], l) => (⟨[], [], l, 1⟩, l)
  | (c :: r, l) => (fld (c :: r) [] l, l)

/-! ### the reader's lines -/

/-- The raw line at the head of U: (line with its newline, rest). -/
def raw : Bs → Bs × Bs
  | [] => ([], [])
  | c :: r => if c = 10 then ([10], r) else (c :: (raw r).1, (raw r).2)

/-- The line as readLine hands it out. -/
def trimCR (l : Bs) : Bs :=
  match l.reverse with
  | 13 :: r => r.reverse
  | 10 :: 13 :: r => (10 :: r).reverse
  | _ => l

/-- The current line and the text unread. -/
def Ln (l U : Bs) : Prop := (∃ a, l = a ++ [10] ∧ 10 ∉ a) ∨ (10 ∉ l ∧ U = [])

theorem raw_app : ∀ U : Bs, U = (raw U).1 ++ (raw U).2
  | [] => rfl
  | c :: r => by
    rw [raw]
    split
    · next h => rw [h]; rfl
    · show c :: r = c :: ((raw r).1 ++ (raw r).2)
      rw [← raw_app r]

theorem raw_Ln : ∀ U : Bs, Ln (raw U).1 (raw U).2
  | [] => .inr ⟨by simp [raw], rfl⟩
  | c :: r => by
    rw [raw]
    split
    · exact .inl ⟨[], rfl, by simp⟩
    · next h =>
      rcases raw_Ln r with ⟨a, h1, h2⟩ | ⟨h1, h2⟩
      · refine .inl ⟨c :: a, by show c :: (raw r).1 = _; rw [h1]; rfl, ?_⟩
        intro hm
        rcases List.mem_cons.1 hm with e | e
        · exact h e.symm
        · exact h2 e
      · refine .inr ⟨?_, h2⟩
        intro hm
        rcases List.mem_cons.1 hm with e | e
        · exact h e.symm
        · exact h1 e

theorem norm_cons_other {c : UInt8} {r : Bs} (h : ¬ (c = 13 ∧ (r = [] ∨ r.head? = some 10))) : norm (c :: r) = c :: norm r := by rw [norm, if_neg h]
theorem norm_nl (r : Bs) : norm (10 :: r) = 10 :: norm r := norm_cons_other (by rintro ⟨h, _⟩; cases h)

/-- A line with a newline, normed. -/
theorem norm_line : ∀ (a r : Bs), 10 ∉ a → norm (a ++ 10 :: r) = trimCR (a ++ [10]) ++ norm r
  | [], r, _ => by rw [List.nil_append, norm_nl]; rfl
  | [c], r, h => by
    by_cases hc : c = 13
    · subst hc
      show norm (13 :: 10 :: r) = _
      rw [norm, if_pos ⟨rfl, .inr rfl⟩, norm_nl]; rfl
    · show norm (c :: 10 :: r) = _
      rw [norm_cons_other (by rintro ⟨h1, _⟩; exact hc h1), norm_nl]
      have : trimCR ([c] ++ [10]) = [c, 10] := by
        unfold trimCR
        simp only [List.cons_append, List.nil_append, List.reverse_cons, List.reverse_nil]
        split
        · next h1 => simp at h1
        · next h1 => simp at h1; exact absurd h1.1 hc
        · rfl
      rw [this]; rfl
  | c :: d :: a, r, h => by
    have hd : d ≠ 10 := fun e => h (by simp [e])
    have ih := norm_line (d :: a) r (fun hm => h (List.mem_cons_of_mem _ hm))
    show norm (c :: ((d :: a) ++ 10 :: r)) = _
    rw [norm_cons_other (by rintro ⟨_, h1 | h1⟩ <;> simp at h1; exact hd h1), ih]
    have : trimCR (c :: (d :: a) ++ [10]) = c :: trimCR ((d :: a) ++ [10]) := by
      unfold trimCR
      simp only [List.cons_append, List.reverse_cons, List.reverse_append, List.reverse_nil, List.nil_append, List.append_assoc]
      generalize a.reverse = b
      cases b with
      | nil =>
        simp only [List.nil_append]
        by_cases hd3 : d = 13
        · subst hd3; rfl
        · split
          · next h1 => simp at h1
          · next h1 => simp at h1; exact absurd h1.1 hd3
          · split
            · next h1 => simp at h1
            · next h1 => simp at h1; exact absurd h1.1 hd3
            · rfl
      | cons e b =>
        simp only [List.cons_append]
        by_cases he : e = 13
        · subst he; simp
        · split
          · next h1 => simp at h1
          · next h1 => simp at h1; exact absurd h1.1 he
          · split
            · next h1 => simp at h1
            · next h1 => simp at h1; exact absurd h1.1 he
            · rfl
    rw [this]; rfl
/-- The last line without a newline, normed. -/
theorem norm_last : ∀ (a : Bs), 10 ∉ a → norm a = trimCR a
  | [], _ => rfl
  | [c], h => by
    by_cases hc : c = 13
    · subst hc; rfl
    · rw [norm_cons_other (by rintro ⟨h1, _⟩; exact hc h1)]
      unfold trimCR
      simp only [List.reverse_cons, List.reverse_nil, List.nil_append]
      split
      · next h1 => simp at h1; exact absurd h1.1 hc
      · next h1 => simp at h1
      · rfl
  | c :: d :: a, h => by
    have hd : d ≠ 10 := fun e => h (by simp [e])
    have ih := norm_last (d :: a) (fun hm => h (List.mem_cons_of_mem _ hm))
    rw [norm_cons_other (by rintro ⟨_, h1 | h1⟩ <;> simp at h1; exact hd h1), ih]
    have hne : ∀ x ∈ (d :: a), x ≠ 10 := fun x hx e => h (by subst e; exact List.mem_cons_of_mem _ hx)
    unfold trimCR
    simp only [List.reverse_cons, List.append_assoc]
    have hrev : ∃ e b, a.reverse ++ [d] = e :: b ∧ e ≠ 10 := by
      cases hb : a.reverse with
      | nil => exact ⟨d, [], rfl, hd⟩
      | cons e b => exact ⟨e, b ++ [d], rfl, hne e (List.mem_cons_of_mem _ (List.mem_reverse.1 (by rw [hb]; simp)))⟩
    obtain ⟨e, b, he, hne'⟩ := hrev
    rw [← List.append_assoc, he]
    simp only [List.cons_append]
    by_cases h13 : e = 13
    · subst h13; simp
    · split
      · next h1 => simp at h1; exact absurd h1.1 h13
      · next h1 => simp at h1; exact absurd h1.1 hne'
      · split
        · next h1 => simp at h1; exact absurd h1.1 h13
        · next h1 => simp at h1; exact absurd h1.1 hne'
        · rfl
end Go.Proofs.Qxb6615582aGreatFmt
