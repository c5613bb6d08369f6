import Derived.Test.Qxb6615043aDoorPlain3
namespace Go.Proofs.Qxb6615043aDoor

/-! ### the model -/
/-- zzPlainOK. -/
def okB (l : List UInt8) (start i : Nat) (flow : Bool) : Bool := pcB l i flow (decide (i = start) || blB (fl l (i - 1)))
def stF (l : List UInt8) (start : Nat) (flow : Bool) : Nat → Nat → Nat
  | 0, i => i
  | m + 1, i => if blB (fl l i) = true then stF l start flow m (i + 1) else if okB l start i flow = true then stF l start flow m (i + (rn l i).2) else i
/-- The first stopper from i on. -/
def st (l : List UInt8) (start : Nat) (flow : Bool) (i : Nat) : Nat := stF l start flow (l.length - i) i
/-- The trimmed end. -/
def tr (l : List UInt8) (start : Nat) : Nat → Nat
  | 0 => 0
  | e + 1 => if start < e + 1 ∧ blB (fl l e) = true then tr l start e else e + 1

theorem rn_out {l : List UInt8} {i : Nat} (h : l.length ≤ i) : rn l i = (-1, 0) := by unfold rn; rw [if_neg (by omega)]
theorem safe_neg (flow : Bool) : safeB (-1) flow = false := by simp [safeB, nsB, prB]
theorem pc_out {l : List UInt8} {i : Nat} (h : l.length ≤ i) (flow aw : Bool) : pcB l i flow aw = false := by
  unfold pcB; rw [rn_out h]; rw [if_pos (safe_neg flow)]
theorem pc_lt {l : List UInt8} {i : Nat} {flow aw : Bool} (h : pcB l i flow aw = true) : i < l.length := by
  rcases Nat.lt_or_ge i l.length with hi | hi
  · exact hi
  · rw [pc_out hi] at h; cases h
theorem rn_bd {l : List UInt8} {i : Nat} (h : i < l.length) : 1 ≤ (rn l i).2 ∧ i + (rn l i).2 ≤ l.length := by
  have := dec_bd l.length (fl l) i h (fl_lt l)
  unfold rn; rw [if_pos h]; exact ⟨this.1, this.2.1⟩
theorem pc_mono {l : List UInt8} {i : Nat} {flow : Bool} (h : pcB l i flow true = true) : pcB l i flow false = true := by
  unfold pcB at *
  split at h
  · cases h
  · split at h
    · simp_all
    · split at h
      · cases h
      · simp_all
/-- The last byte of a character that is no blank is no blank. -/
theorem rn_last {l : List UInt8} {i : Nat} (h : i < l.length) (hb : blB (fl l i) = false) : blB (fl l (i + (rn l i).2 - 1)) = false := by
  have hb' : fl l i ≠ 32 ∧ fl l i ≠ 9 := by
    simp only [blB, decide_eq_false_iff_not] at hb; omega
  have key : ∀ k, (dec l.length (fl l) i).2 = k → (k = 1 ∨ 128 ≤ fl l (i + k - 1)) := by
    intro k hk
    unfold dec Lib.decodeN at hk
    repeat' split at hk
    all_goals (simp only at hk; subst hk)
    all_goals first | exact .inl rfl | (right; rw [show i + 2 - 1 = i + 1 from rfl]; omega) | (right; rw [show i + 3 - 1 = i + 2 from rfl]; omega) | (right; rw [show i + 4 - 1 = i + 3 from rfl]; omega)
  unfold rn
  rw [if_pos h]
  simp only [blB, decide_eq_false_iff_not]
  rcases key _ rfl with e | e
  · rw [e]; simp only [Nat.add_sub_cancel]; omega
  · omega

theorem stF_fuel (l : List UInt8) (start : Nat) (flow : Bool) : ∀ m i, l.length - i ≤ m → stF l start flow m i = st l start flow i := by
  have key : ∀ m i m', l.length - i ≤ m → l.length - i ≤ m' → stF l start flow m i = stF l start flow m' i := by
    intro m
    induction m with
    | zero =>
      intro i m' h h'
      cases m' with
      | zero => rfl
      | succ m' =>
        simp only [stF]
        have hb : blB (fl l i) = false := by rw [fl_out (by omega)]; rfl
        have ho : okB l start i flow = false := pc_out (by omega) _ _
        rw [hb, ho]; simp
    | succ m ih =>
      intro i m' h h'
      cases m' with
      | zero =>
        simp only [stF]
        have hb : blB (fl l i) = false := by rw [fl_out (by omega)]; rfl
        have ho : okB l start i flow = false := pc_out (by omega) _ _
        rw [hb, ho]; simp
      | succ m' =>
        simp only [stF]
        split
        · next hb => exact ih _ _ (by omega) (by omega)
        · split
          · next ho =>
            have := rn_bd (pc_lt ho)
            exact ih _ _ (by omega) (by omega)
          · rfl
  intro m i h
  exact key m i _ h (Nat.le_refl _)

variable {l : List UInt8} {start i : Nat} {flow : Bool}
theorem st_bl (h : blB (fl l i) = true) : st l start flow i = st l start flow (i + 1) := by
  have hi := bl_lt h
  rw [← stF_fuel l start flow (l.length - (i + 1)) (i + 1) (Nat.le_refl _)]
  unfold st
  rw [show l.length - i = (l.length - (i + 1)) + 1 from by omega]
  simp only [stF]
  rw [if_pos h]
theorem st_ok (hb : blB (fl l i) = false) (h : okB l start i flow = true) : st l start flow i = st l start flow (i + (rn l i).2) := by
  have hi := pc_lt h
  have := rn_bd hi
  rw [← stF_fuel l start flow (l.length - (i + 1)) (i + (rn l i).2) (by omega)]
  unfold st
  rw [show l.length - i = (l.length - (i + 1)) + 1 from by omega]
  simp only [stF]
  rw [if_neg (by simp [hb]), if_pos h]
theorem st_no (hb : blB (fl l i) = false) (h : okB l start i flow = false) : st l start flow i = i := by
  unfold st
  rcases l.length - i with _ | m
  · rfl
  · simp only [stF]
    rw [if_neg (by simp [hb]), if_neg (by simp [h])]
theorem st_run {k : Nat} (hk : k ≤ l.length) : st l start flow k = st l start flow (sk l k) := by
  obtain ⟨h1, h2, h3, h4⟩ := sk_bd hk
  have key : ∀ d, k + d ≤ sk l k → st l start flow k = st l start flow (k + d) := by
    intro d
    induction d with
    | zero => intro _; rfl
    | succ d ih =>
      intro h
      rw [ih (by omega), st_bl (h4 _ (by omega) (by omega))]; rfl
  have := key (sk l k - k) (by omega)
  rwa [show k + (sk l k - k) = sk l k from by omega] at this
theorem tr_bl {e : Nat} (h : start ≤ e) (hb : blB (fl l e) = true) : tr l start (e + 1) = tr l start e := by
  simp only [tr]; rw [if_pos ⟨by omega, hb⟩]
theorem tr_no {e : Nat} (h : e = start ∨ blB (fl l (e - 1)) = false) (h0 : start ≤ e) : tr l start e = e := by
  cases e with
  | zero => rfl
  | succ e =>
    simp only [tr]
    rcases h with h | h
    · rw [if_neg (by omega)]
    · rw [if_neg (by simp only [Nat.add_sub_cancel] at h; simp [h])]
theorem tr_run {k : Nat} (hs : start ≤ k) (hk : k ≤ l.length) : tr l start (sk l k) = tr l start k := by
  obtain ⟨h1, h2, h3, h4⟩ := sk_bd hk
  have key : ∀ d, k + d ≤ sk l k → tr l start (k + d) = tr l start k := by
    intro d
    induction d with
    | zero => intro _; rfl
    | succ d ih =>
      intro h
      rw [← ih (by omega)]
      exact tr_bl (e := k + d) (by omega) (h4 (k + d) (by omega) (by omega))
  have := key (sk l k - k) (by omega)
  rwa [show k + (sk l k - k) = sk l k from by omega] at this
theorem tr_bd (l : List UInt8) (start : Nat) : ∀ e, start ≤ e → start ≤ tr l start e ∧ tr l start e ≤ e
  | 0, h => ⟨h, Nat.le_refl _⟩
  | e + 1, h => by
    simp only [tr]
    split
    · next hh => have := tr_bd l start e (by omega); omega
    · omega

/-- What holds at the head of plainLine's loop. -/
structure J (l : List UInt8) (start : Nat) (flow : Bool) (k en : Nat) : Prop where
  lo : start ≤ k
  hi : k ≤ l.length
  run : st l start flow k = st l start flow start
  end_ : tr l start k = en
  prev : k = start ∨ blB (fl l (k - 1)) = false ∨ pcB l k flow true = true

theorem J.begin (h : start ≤ l.length) : J l start flow start start := ⟨Nat.le_refl _, h, rfl, tr_no (.inl rfl) (Nat.le_refl _), .inl rfl⟩
theorem J.bd {k en : Nat} (h : J l start flow k en) : start ≤ en ∧ en ≤ k := by
  have := tr_bd l start k h.lo; have := h.end_; omega
/-- blanks, then a character that may stand. -/
theorem J.on {k en : Nat} (h : J l start flow k en) (_hm : k < sk l k) (hp : pcB l (sk l k) flow true = true) : J l start flow (sk l k) en := by
  obtain ⟨h1, h2, h3, h4⟩ := sk_bd h.hi
  have := h.lo
  exact ⟨by omega, h2, by rw [← st_run h.hi]; exact h.run, by rw [tr_run h.lo h.hi]; exact h.end_, .inr (.inr hp)⟩
/-- blanks, then a stopper. -/
theorem J.stop {k en : Nat} (h : J l start flow k en) (hm : k < sk l k) (hp : pcB l (sk l k) flow true = false) : tr l start (st l start flow start) = en := by
  obtain ⟨h1, h2, h3, h4⟩ := sk_bd h.hi
  have hbl := h4 (sk l k - 1) (by omega) (by omega)
  have ho : okB l start (sk l k) flow = false := by
    unfold okB; rw [hbl, Bool.or_true]; exact hp
  rw [← h.run, st_run h.hi, st_no h3 ho, tr_run h.lo h.hi]; exact h.end_
theorem J.same {k en : Nat} (h : J l start flow k en) : okB l start k flow = pcB l k flow (decide (k = start)) := by
  unfold okB
  by_cases e : k = start
  · rw [decide_eq_true e]; rfl
  · rw [decide_eq_false e, Bool.false_or]
    rcases h.prev with h1 | h1 | h1
    · exact absurd h1 e
    · rw [h1]
    · cases h2 : blB (fl l (k - 1))
      · rfl
      · rw [h1, pc_mono h1]
/-- no blank, and a stopper. -/
theorem J.halt {k en : Nat} (h : J l start flow k en) (hb : blB (fl l k) = false) (hp : pcB l k flow (decide (k = start)) = false) : tr l start (st l start flow start) = en := by
  have ho := h.same.trans hp
  rw [← h.run, st_no hb ho]; exact h.end_
/-- no blank, and a character that may stand. -/
theorem J.step {k en : Nat} (h : J l start flow k en) (hb : blB (fl l k) = false) (hp : pcB l k flow (decide (k = start)) = true) : J l start flow (k + (rn l k).2) (k + (rn l k).2) := by
  have ho := h.same.trans hp
  have hl := pc_lt ho
  have := rn_bd hl
  have := h.lo
  have hlast := rn_last hl hb
  exact ⟨by omega, by omega, by rw [← st_ok hb ho]; exact h.run, tr_no (.inr hlast) (by omega), .inr (.inl hlast)⟩
end Go.Proofs.Qxb6615043aDoor
