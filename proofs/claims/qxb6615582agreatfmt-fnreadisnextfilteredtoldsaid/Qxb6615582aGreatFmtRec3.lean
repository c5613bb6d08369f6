import Derived.Test.Qxb6615582aGreatFmtRec2
namespace Go.Proofs.Qxb6615582aGreatFmt
open Go.RowKit

/-- Where each field ends. -/
def cumF : Nat → List Bs → List Nat
  | _, [] => []
  | s, f :: fs => (s + f.length) :: cumF (s + f.length) fs
theorem cumF_snoc : ∀ (s : Nat) (fs : List Bs) (f : Bs), cumF s (fs ++ [f]) = cumF s fs ++ [s + fs.flatten.length + f.length]
  | s, [], f => by simp [cumF]
  | s, g :: fs, f => by
    show (s + g.length) :: cumF (s + g.length) (fs ++ [f]) = _
    rw [cumF_snoc]
    simp [cumF, Nat.add_assoc]
theorem cumF_length : ∀ (s : Nat) (fs : List Bs), (cumF s fs).length = fs.length
  | _, [] => rfl
  | s, f :: fs => by simp [cumF, cumF_length]

/-- What holds of the start of a call. -/
structure G0 (w0 : World) (T0 : Nat → Nat) (ae ab aq abq : Addr) : Prop where
  e0 : Es w0 T0 0 ae
  e8 : Es w0 T0 8 ab
  e1 : Es w0 T0 1 aq
  e2 : Es w0 T0 2 abq
  ne : ae ≠ ab
  tabs : Lib.Utf8Tabs 3 4 w0
  t3 : T0 3 = 0
  t4 : T0 4 = 0
/-- The state between: what the call has left of the start. -/
structure Jx (w0 : World) (T0 : Nat → Nat) (w : World) (T : Nat → Nat) : Prop where
  kp : Kp (Fa T0) w0 w
  old : Old w0 T0 T
theorem Jx.refl (w : World) (T : Nat → Nat) : Jx w T w T := ⟨Kp.refl _ _, fun _ _ => rfl⟩
theorem Jx.step {w0 w w' : World} {T0 T T' : Nat → Nat} (h : Jx w0 T0 w T) {F : Nat → Prop} (hk : Kp F w w') (hF : ∀ k, F k → T k ≠ 0) (ho : Old w T T') : Jx w0 T0 w' T' :=
  ⟨h.kp.old h.old (hk.mono (fun k _ e => hF k e)), h.old.trans ho h.kp.size⟩
theorem Es.keptA {w0 w : World} {T0 T : Nat → Nat} {g : Nat} {a : Addr} (h : Es w0 T0 g a) (hj : Jx w0 T0 w T) : Es w T g a :=
  ⟨h.er.kept hj.kp (by unfold Fa; have := h.tg; omega) (by unfold Fa; have := h.ta; omega), by rw [hj.old g h.lt.1]; exact h.tg, by rw [hj.old _ h.lt.2]; exact h.ta⟩
theorem tabs_kept {w0 w : World} (h : Lib.Utf8Tabs 3 4 w0) {F : Nat → Prop} (hk : Kp F w0 w) (h3 : ¬ F 3) (h4 : ¬ F 4) : Lib.Utf8Tabs 3 4 w := by
  refine ⟨fun c hc => ?_, fun i hi => ⟨?_, ?_⟩⟩
  · rw [hk.cell (p := ⟨3, c, none⟩) (lt_of_cell (h.1 c hc)) h3]; exact h.1 c hc
  · rw [hk.cell (p := ⟨4, 2 * i, none⟩) (lt_of_cell (h.2 i hi).1) h4]; exact (h.2 i hi).1
  · rw [hk.cell (p := ⟨4, 2 * i + 1, none⟩) (lt_of_cell (h.2 i hi).2) h4]; exact (h.2 i hi).2
theorem G0.at_ {w0 w : World} {T0 T : Nat → Nat} {ae ab aq abq : Addr} (h : G0 w0 T0 ae ab aq abq) (hj : Jx w0 T0 w T) : G0 w T ae ab aq abq :=
  ⟨h.e0.keptA hj, h.e8.keptA hj, h.e1.keptA hj, h.e2.keptA hj, h.ne, tabs_kept h.tabs hj.kp (by unfold Fa; have := h.t3; omega) (by unfold Fa; have := h.t4; omega),
   by rw [hj.old 3 (lt_of_cell (h.tabs.1 0 (by decide)))]; exact h.t3, by rw [hj.old 4 (lt_of_cell (h.tabs.2 0 (by decide)).1)]; exact h.t4⟩

/-- The reader in readRecord: some values, some rows. -/
structure Rx (w0 : World) (T0 : Nat → Nat) (w : World) (T : Nat → Nat) (A : RA) (cB : Nat) (ae : Addr) (N : Nat) (U : Bs) (n : Nat) (R : Bs) (ix : List Nat) (ps : List (Int × Int)) : Prop where
  rr : ∃ off rb rec fi fp, Rr w T A cB ae U n off rb rec fi fp R ix ps
  jx : Jx w0 T0 w T
  nb : n + U.length ≤ N

/-- Before a record. -/
def Ra (w0 : World) (T0 : Nat → Nat) (A : RA) (cB : Nat) (ae : Addr) (N : Nat) (X : Out × Nat) (R : Bs) (ix : List Nat) (ps : List (Int × Int)) (gk : Nat) (wr : World) : Prop :=
  ∃ T U n x ln, Rx w0 T0 wr T A cB ae N U n R ix ps ∧ St x ln U n ∧ recd x ln = X ∧ U.length = gk
/-- Behind the blank lines: the end, or a record's first line. -/
def Rb (w0 : World) (T0 : Nat → Nat) (A : RA) (cB : Nat) (ae : Addr) (N : Nat) (X : Out × Nat) (R : Bs) (ix : List Nat) (ps : List (Int × Int)) (s6 s7 : Value) (wx : World) : Prop :=
  ∃ T U n, Rx w0 T0 wx T A cB ae (N + 1) U n R ix ps ∧
    ((s7 = ev ae ∧ X.1.oc = 1 ∧ X.1.rest = [] ∧ U = []) ∨ (s7 = .nilIface ∧ ∃ l, Lv wx T s6 l ∧ Fd X.1 l U [] n ∧ X.2 = n ∧ n + U.length ≤ N ∧ l.length + U.length ≤ 1052672))

theorem raw_len (U : Bs) (h : U ≠ []) : (trimCR (raw U).1).length + (raw U).2.length ≤ U.length ∧ (raw U).2.length < U.length ∧ (trimCR (raw U).1).length ≤ (raw U).1.length := by
  have h1 := congrArg List.length (raw_app U)
  rw [List.length_append] at h1
  have h2 : (trimCR (raw U).1).length ≤ (raw U).1.length := by
    generalize (raw U).1 = L
    unfold trimCR
    split
    · next r e =>
      have := congrArg List.length e
      simp at this ⊢
      omega
    · next r e =>
      have := congrArg List.length e
      simp at this ⊢
      omega
    · exact Nat.le_refl _
  have h3 : 0 < (raw U).1.length := by
    cases U with
    | nil => exact absurd rfl h
    | cons c r =>
      rw [raw]
      split <;> simp
  omega
theorem blank_iff (l : Bs) (hl : (∃ a, l = a ++ [10] ∧ 10 ∉ a) ∨ 10 ∉ l) : l.length = lnl l ↔ (l = [10] ∨ l = []) := by
  unfold lnl
  rcases hl with ⟨a, rfl, h⟩ | h
  · simp
  · have : ¬ l.getLast? = some 10 := fun e => h (List.mem_of_getLast? e)
    rw [if_neg this]
    constructor
    · intro e; exact .inr (List.eq_nil_of_length_eq_zero e)
    · rintro (rfl | rfl)
      · exact absurd (by simp) h
      · rfl
end Go.Proofs.Qxb6615582aGreatFmt
