import Derived.Test.Qxb6606282aDoorPlain
namespace Go.Proofs.Qxb6606282aDoor

def tl (l : List UInt8) : List UInt8 := Lib.trimLeftB l 48
def tr (l : List UInt8) : List UInt8 := Lib.trimRightB l 48
/-- parseInteger. -/
def parI (l : List UInt8) : Bool × List UInt8 :=
  (Lib.hasPrefix (Lib.trimPrefix l [43]) [45] && !(tl (Lib.trimPrefix (Lib.trimPrefix l [43]) [45])).isEmpty, tl (Lib.trimPrefix (Lib.trimPrefix l [43]) [45]))
/-- integer.String. -/
def strI (n : Bool) (ds : List UInt8) : List UInt8 := if ds = [] then [48] else if n = true then 45 :: ds else ds
/-- A canonical integer. -/
structure CI (n : Bool) (ds : List UInt8) : Prop where
  dg : Dg ds
  hd : tl ds = ds
  ne : n = true → ds ≠ []

theorem Dg_app {a b : List UInt8} (ha : Dg a) (hb : Dg b) : Dg (a ++ b) := fun x hx => by
  rcases List.mem_append.1 hx with h | h
  · exact ha x h
  · exact hb x h
theorem Dg_sub {a b : List UInt8} (hb : Dg b) (h : ∀ x ∈ a, x ∈ b) : Dg a := fun x hx => hb x (h x hx)
theorem tl_tl (l : List UInt8) : tl (tl l) = tl l := by
  unfold tl Lib.trimLeftB
  induction l with
  | nil => rfl
  | cons c r ih =>
    rw [List.dropWhile_cons]
    split
    · exact ih
    · next h => rw [List.dropWhile_cons, if_neg h]
theorem tl_mem (l : List UInt8) : ∀ x ∈ tl l, x ∈ l := fun _ hx => (List.dropWhile_sublist _).mem hx
theorem tr_mem (l : List UInt8) : ∀ x ∈ tr l, x ∈ l := fun x hx => by
  unfold tr Lib.trimRightB at hx
  rw [List.mem_reverse] at hx
  have := (List.dropWhile_sublist _).mem hx
  rwa [List.mem_reverse] at this
theorem tl_len (l : List UInt8) : (tl l).length ≤ l.length := (List.dropWhile_sublist _).length_le
theorem tr_len (l : List UInt8) : (tr l).length ≤ l.length := by
  unfold tr Lib.trimRightB
  rw [List.length_reverse]
  have := (List.dropWhile_sublist (l := l.reverse) (fun x : UInt8 => x == 48)).length_le
  rwa [List.length_reverse] at this
theorem tl_zero (l : List UInt8) : tl (48 :: l) = tl l := by unfold tl Lib.trimLeftB; rw [List.dropWhile_cons, if_pos (by decide)]
theorem tl_head {c : UInt8} {r : List UInt8} (h : c ≠ 48) : tl (c :: r) = c :: r := by
  unfold tl Lib.trimLeftB; rw [List.dropWhile_cons, if_neg (by simpa using h)]
theorem head_of_tl {c : UInt8} {r : List UInt8} (h : tl (c :: r) = c :: r) : c ≠ 48 := by
  intro e
  subst e
  rw [tl_zero] at h
  have := tl_len r
  rw [h] at this
  simp at this
  omega
theorem tr_tr (l : List UInt8) : tr (tr l) = tr l := by
  have := tl_tl l.reverse
  unfold tl Lib.trimLeftB at this
  unfold tr Lib.trimRightB
  rw [List.reverse_reverse, this]
/-- what is trimmed at the right is a prefix -/
theorem tr_prefix (l : List UInt8) : ∃ z, l = tr l ++ z := by
  have h := List.takeWhile_append_dropWhile (p := fun x : UInt8 => x == 48) (l := l.reverse)
  refine ⟨(l.reverse.takeWhile (fun x : UInt8 => x == 48)).reverse, ?_⟩
  unfold tr Lib.trimRightB
  rw [← List.reverse_append, h, List.reverse_reverse]
theorem tl_tr {l : List UInt8} (h : tl l = l) : tl (tr l) = tr l := by
  obtain ⟨z, hz⟩ := tr_prefix l
  cases ht : tr l with
  | nil => rfl
  | cons c r =>
    rw [ht] at hz
    rw [hz] at h
    exact tl_head (head_of_tl (r := r ++ z) h)

theorem dg_ne {c : UInt8} (h : dgB c = true) : c ≠ 43 ∧ c ≠ 45 ∧ c ≠ 46 ∧ c ≠ 101 ∧ c ≠ 69 ∧ c.toNat < 128 ∧ 48 ≤ c.toNat ∧ c.toNat ≤ 57 := by
  simp only [dgB, decide_eq_true_eq] at h
  refine ⟨?_, ?_, ?_, ?_, ?_, by omega, h.1, h.2⟩
  all_goals (intro e; subst e; simp at h)
theorem pre_no {c x : UInt8} {r : List UInt8} (h : c ≠ x) : Lib.hasPrefix (c :: r) [x] = false := by
  simp [Lib.hasPrefix, List.isPrefixOf]; exact fun e => h e.symm
theorem pre_yes (x : UInt8) (r : List UInt8) : Lib.hasPrefix (x :: r) [x] = true := by simp [Lib.hasPrefix, List.isPrefixOf]
theorem pre_nil (x : UInt8) : Lib.hasPrefix [] [x] = false := rfl
theorem trim_no {l : List UInt8} {x : UInt8} (h : Lib.hasPrefix l [x] = false) : Lib.trimPrefix l [x] = l := by unfold Lib.trimPrefix; rw [if_neg (by simp [h])]
theorem trim_yes (x : UInt8) (r : List UInt8) : Lib.trimPrefix (x :: r) [x] = r := by unfold Lib.trimPrefix; rw [if_pos (pre_yes x r)]; rfl
theorem pre_Dg {l : List UInt8} {x : UInt8} (h : Dg l) (hx : x = 43 ∨ x = 45) : Lib.hasPrefix l [x] = false := by
  cases l with
  | nil => rfl
  | cons c r =>
    have := dg_ne (h c (by simp))
    rcases hx with rfl | rfl
    · exact pre_no this.1
    · exact pre_no this.2.1

theorem parI_eq {s x : List UInt8} (hs : s = [] ∨ s = [43] ∨ s = [45]) (hx : Dg x) : parI (s ++ x) = (decide (s = [45]) && !(tl x).isEmpty, tl x) := by
  unfold parI
  rcases hs with rfl | rfl | rfl
  · rw [List.nil_append, trim_no (pre_Dg hx (.inl rfl)), trim_no (pre_Dg hx (.inr rfl)), pre_Dg hx (.inr rfl)]; rfl
  · rw [show ([43] : List UInt8) ++ x = 43 :: x from rfl, trim_yes, trim_no (pre_Dg hx (.inr rfl)), pre_Dg hx (.inr rfl)]; rfl
  · rw [show ([45] : List UInt8) ++ x = 45 :: x from rfl, trim_no (pre_no (by decide)), trim_yes, pre_yes]; rfl
theorem parI_CI {s x : List UInt8} (hs : s = [] ∨ s = [43] ∨ s = [45]) (hx : Dg x) : CI (parI (s ++ x)).1 (parI (s ++ x)).2 ∧ (parI (s ++ x)).2.length ≤ x.length := by
  rw [parI_eq hs hx]
  refine ⟨⟨Dg_sub hx (tl_mem x), tl_tl x, fun h e => ?_⟩, tl_len x⟩
  simp only at h e
  rw [e] at h
  simp at h
theorem parI_str {n : Bool} {ds : List UInt8} (h : CI n ds) : parI (strI n ds) = (n, ds) := by
  unfold strI
  by_cases h0 : ds = []
  · rw [if_pos h0]
    have hn : n = false := by
      cases n with
      | false => rfl
      | true => exact absurd h0 (h.ne rfl)
    rw [hn, h0]; rfl
  · rw [if_neg h0]
    have he : ds.isEmpty = false := by simpa using h0
    cases n with
    | false =>
      rw [if_neg (by simp)]
      have := parI_eq (s := []) (.inl rfl) h.dg
      rw [List.nil_append] at this
      rw [this, h.hd]; rfl
    | true =>
      rw [if_pos rfl]
      have := parI_eq (s := [45]) (.inr (.inr rfl)) h.dg
      rw [show (45 :: ds : List UInt8) = [45] ++ ds from rfl, this, h.hd, he]; rfl

/-! ### ParseInt and FormatInt, there and back -/
def valF (acc : Nat) (ds : List UInt8) : Nat := ds.foldl (fun a c => a * 10 + (c.toNat - 48)) acc
theorem valF_nil (acc : Nat) : valF acc [] = acc := by unfold valF; rw [List.foldl_nil]
theorem valF_cons (acc : Nat) (c : UInt8) (r : List UInt8) : valF acc (c :: r) = valF (acc * 10 + (c.toNat - 48)) r := by unfold valF; rw [List.foldl_cons]
theorem parse_step (M acc N d p : Nat) (hN : N ≤ M) (hN2 : N ≤ 18446744073709551620) (hd : d ≤ 9) (hp : 1 ≤ p) (hb : (acc + 1) * 10 * p ≤ N) : (acc * 10 + d + 1) * p ≤ (acc + 1) * 10 * p ∧ (acc * 10 + d + 1) * p ≤ N ∧ ¬ 1844674407370955162 ≤ acc ∧ ¬ M < acc * 10 + d := by
  have hle : (acc * 10 + d + 1) * p ≤ (acc + 1) * 10 * p := Nat.mul_le_mul_right _ (by omega)
  have hacc : (acc + 1) * 10 ≤ N := Nat.le_trans (Nat.le_mul_of_pos_right _ hp) hb
  exact ⟨hle, Nat.le_trans hle hb, by omega, by omega⟩
theorem parseM_cons (M acc : Nat) (c : UInt8) (r : List UInt8) (hc : 48 ≤ c.toNat ∧ c.toNat ≤ 57) (h1 : ¬ 1844674407370955162 ≤ acc) (h2 : ¬ M < acc * 10 + (c.toNat - 48)) : Lib.parseUintM M acc (c :: r) = Lib.parseUintM M (acc * 10 + (c.toNat - 48)) r := by
  simp only [Lib.parseUintM, if_pos hc, if_neg h1, if_neg h2]
theorem parse_val (M N : Nat) (hN : N ≤ M) (hN2 : N ≤ 18446744073709551620) (ds : List UInt8) : ∀ (acc : Nat), Dg ds → (acc + 1) * 10 ^ ds.length ≤ N → Lib.parseUintM M acc ds = .ok (valF acc ds) ∧ valF acc ds < (acc + 1) * 10 ^ ds.length := by
  induction ds with
  | nil => intro acc _ _; exact ⟨by rw [valF_nil]; simp only [Lib.parseUintM], by rw [valF_nil]; simp⟩
  | cons c r ih =>
    intro acc h hb
    have hc := (dg_ne (h c (by simp))).2.2.2.2.2.2
    have hr : Dg r := fun x hx => h x (by simp [hx])
    have e : (acc + 1) * 10 ^ (c :: r).length = (acc + 1) * 10 * 10 ^ r.length := by rw [List.length_cons, Nat.pow_succ, Nat.mul_comm (10 ^ r.length) 10, Nat.mul_assoc]
    rw [e] at hb ⊢
    have h10 : 1 ≤ 10 ^ r.length := Nat.one_le_pow _ _ (by omega)
    have h9 : c.toNat - 48 ≤ 9 := by omega
    have k := parse_step M acc N (c.toNat - 48) (10 ^ r.length) hN hN2 h9 h10 hb
    have ihh := ih (acc * 10 + (c.toNat - 48)) hr k.2.1
    refine ⟨?_, Nat.lt_of_lt_of_le ihh.2 k.1⟩
    rw [parseM_cons M acc c r hc k.2.2.1 k.2.2.2]
    exact ihh.1
theorem dec_small {u : Nat} (h : u < 10) : Lib.decDigits u = [UInt8.ofNat (48 + u)] := by rw [Lib.decDigits, dif_pos h]
theorem dec_big {u : Nat} (h : ¬ u < 10) : Lib.decDigits u = Lib.decDigits (u / 10) ++ [UInt8.ofNat (48 + u % 10)] := by rw [Lib.decDigits, dif_neg h]
theorem dec_val : ∀ (ds : List UInt8) (acc : Nat), Dg ds → 1 ≤ acc → Lib.decDigits (valF acc ds) = Lib.decDigits acc ++ ds
  | [], acc, _, _ => by rw [valF_nil, List.append_nil]
  | c :: r, acc, h, ha => by
    have hc := (dg_ne (h c (by simp))).2.2.2.2.2.2
    have hr : Dg r := fun x hx => h x (by simp [hx])
    rw [valF_cons, dec_val r _ hr (by omega), dec_big (by omega)]
    have e1 : (acc * 10 + (c.toNat - 48)) / 10 = acc := by omega
    have e2 : UInt8.ofNat (48 + (acc * 10 + (c.toNat - 48)) % 10) = c := by
      exact (u8_eq (c := c) (n := 48 + (acc * 10 + (c.toNat - 48)) % 10) (by omega) (by omega)).symm
    rw [e1, e2, List.append_assoc]; rfl
theorem dec_canon {ds : List UInt8} (h : Dg ds) (hd : tl ds = ds) (h0 : ds ≠ []) : Lib.decDigits (valF 0 ds) = ds ∧ 1 ≤ valF 0 ds := by
  cases ds with
  | nil => exact absurd rfl h0
  | cons c r =>
    have hc := (dg_ne (h c (by simp))).2.2.2.2.2.2
    have hr : Dg r := fun x hx => h x (by simp [hx])
    have hne : c.toNat ≠ 48 := fun e => head_of_tl hd (u8_eq (n := 48) (by omega) e)
    have key : ∀ (l : List UInt8) (a : Nat), 1 ≤ a → 1 ≤ valF a l := by
      intro l
      induction l with
      | nil => intro a ha; rw [valF_nil]; exact ha
      | cons x l ih => intro a ha; rw [valF_cons]; exact ih _ (by omega)
    rw [valF_cons]
    refine ⟨?_, key _ _ (by omega)⟩
    rw [dec_val r _ hr (by omega), dec_small (by omega)]
    have e2 : UInt8.ofNat (48 + (0 * 10 + (c.toNat - 48))) = c := by
      exact (u8_eq (c := c) (n := 48 + (0 * 10 + (c.toNat - 48))) (by omega) (by omega)).symm
    rw [e2]; rfl
theorem dec_Dg : ∀ (u : Nat), Dg (Lib.decDigits u) := by
  intro u
  induction u using Nat.strongRecOn with
  | ind u ih =>
    by_cases h : u < 10
    · rw [dec_small h]
      refine Dg_cons ?_ Dg_nil
      simp only [dgB, decide_eq_true_eq, UInt8.toNat_ofNat']
      omega
    · rw [dec_big h]
      refine Dg_app (ih _ (by omega)) (Dg_cons ?_ Dg_nil)
      simp only [dgB, decide_eq_true_eq, UInt8.toNat_ofNat']
      omega
theorem itoa_form (m : Int) : ∃ s x, (s = [] ∨ s = [43] ∨ s = [45]) ∧ Dg x ∧ Lib.itoa m = s ++ x := by
  unfold Lib.itoa
  split
  · exact ⟨[45], _, .inr (.inr rfl), dec_Dg _, rfl⟩
  · exact ⟨[], _, .inl rfl, dec_Dg _, rfl⟩
theorem round_trip {n : Bool} {ds : List UInt8} (h : CI n ds) (hl : ds.length ≤ 18) : ∃ v : Int, Lib.parseIntB 64 (strI n ds) = .ok v ∧ Lib.itoa v = strI n ds ∧ -1000000000000000000 < v ∧ v < 1000000000000000000 := by
  by_cases h0 : ds = []
  · have hn : n = false := by
      cases n with
      | false => rfl
      | true => exact absurd h0 (h.ne rfl)
    subst h0 hn
    refine ⟨0, by decide, ?_, by decide, by decide⟩
    show Lib.decDigits 0 = _
    rw [dec_small (by omega)]; rfl
  · have hp : 10 ^ ds.length ≤ 10 ^ 18 := Nat.pow_le_pow_right (by decide) hl
    obtain ⟨h1, h2⟩ := parse_val (2 ^ 64 - 1) (10 ^ 18) (by decide) (by decide) ds 0 h.dg (by rw [Nat.zero_add, Nat.one_mul]; exact hp)
    rw [Nat.zero_add, Nat.one_mul] at h2
    obtain ⟨h3, h4⟩ := dec_canon h.dg h.hd h0
    have hu : valF 0 ds < 1000000000000000000 := Nat.lt_of_lt_of_le h2 hp
    have hpu : Lib.parseUintB 64 ds = .ok (valF 0 ds) := by unfold Lib.parseUintB; rw [if_neg h0]; exact h1
    cases n with
    | false =>
      refine ⟨valF 0 ds, ?_, ?_, by omega, by omega⟩
      · rw [strI, if_neg h0, if_neg (by simp)]
        cases hds : ds with
        | nil => exact absurd hds h0
        | cons c r =>
          have hc := dg_ne (h.dg c (by rw [hds]; simp))
          have c43 : ¬ (c.toNat = 43 ∨ c.toNat = 45) := by omega
          have c45 : ¬ c.toNat = 45 := by omega
          rw [hds] at hpu hu
          unfold Lib.parseIntB
          simp only [if_neg c43, hpu]
          rw [if_neg (fun hh => by have := hh.2; omega), if_neg (fun hh => c45 hh.1), if_neg c45]
      · unfold Lib.itoa
        rw [if_neg (by omega), strI, if_neg h0, if_neg (by simp)]
        simpa using h3
    | true =>
      refine ⟨-(valF 0 ds : Int), ?_, ?_, by omega, by omega⟩
      · rw [strI, if_neg h0, if_pos rfl]
        unfold Lib.parseIntB
        simp only [if_pos (show (45 : UInt8).toNat = 43 ∨ (45 : UInt8).toNat = 45 from .inr rfl), hpu]
        rw [if_neg (fun hh => hh.1 rfl), if_neg (fun hh => by have := hh.2; omega), if_pos (show (45 : UInt8).toNat = 45 from rfl)]
      · unfold Lib.itoa
        rw [if_pos (by omega), strI, if_neg h0, if_pos rfl]
        simpa using h3
end Go.Proofs.Qxb6606282aDoor
