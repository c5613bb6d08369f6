/-
  PLAIN MATHEMATICS for the law 'the key of a JSON number literal is a JSON number literal and its own key': no program in sight.
-/
import Derived.Lib.ParseIntB
import Derived.Lib.ItoaNum
import Derived.Lib.ItoaLen
import Derived.Lib.IndexMore
import Derived.Lib.TrimByte
import Derived.Lib.Case
import Derived.Lib.Strings
namespace Go.Proofs.Qxb6606282aDoor

def dgB (c : UInt8) : Bool := decide (48 ≤ c.toNat ∧ c.toNat ≤ 57)
def dd (l : List UInt8) : List UInt8 := l.dropWhile dgB
def js4 (q : List UInt8) : Bool := decide ((dd q).length < q.length) && (dd q).isEmpty
/-- behind the exponent's letter -/
def js3e : List UInt8 → Bool
  | [] => false
  | d :: q => if d.toNat = 43 ∨ d.toNat = 45 then js4 q else js4 (d :: q)
def js3 : List UInt8 → Bool
  | [] => true
  | c :: r => if c.toNat = 101 ∨ c.toNat = 69 then js3e r else false
def js2 : List UInt8 → Bool
  | [] => true
  | c :: r => if c.toNat = 46 then decide ((dd r).length < r.length) && js3 (dd r) else js3 (c :: r)
def js1 : List UInt8 → Bool
  | [] => false
  | c :: r => if c.toNat = 48 then js2 r else if 49 ≤ c.toNat ∧ c.toNat ≤ 57 then js2 (dd (c :: r)) else false
/-- zzIsJSONNumber. -/
def jsonB : List UInt8 → Bool
  | [] => false
  | c :: r => if c.toNat = 45 then js1 r else js1 (c :: r)

def Dg (l : List UInt8) : Prop := ∀ c ∈ l, dgB c = true

theorem Dg_nil : Dg [] := fun _ h => by cases h
theorem Dg_cons {c : UInt8} {l : List UInt8} (h : dgB c = true) (hl : Dg l) : Dg (c :: l) := fun x hx => by
  rcases List.mem_cons.1 hx with rfl | hx
  · exact h
  · exact hl x hx
theorem dd_split : ∀ l : List UInt8, ∃ a, Dg a ∧ l = a ++ dd l ∧ (∀ c r, dd l = c :: r → dgB c = false)
  | [] => ⟨[], Dg_nil, rfl, fun c r h => by cases h⟩
  | c :: r => by
    by_cases h : dgB c = true
    · obtain ⟨a, h1, h2, h3⟩ := dd_split r
      have e : dd (c :: r) = dd r := by simp [dd, h]
      rw [e]
      exact ⟨c :: a, Dg_cons h h1, by rw [List.cons_append, ← h2], h3⟩
    · have e : dd (c :: r) = c :: r := by simp [dd, h]
      rw [e]
      exact ⟨[], Dg_nil, rfl, fun c' r' he => by cases he; simpa using h⟩
theorem dd_of_Dg : ∀ {l : List UInt8}, Dg l → dd l = []
  | [], _ => rfl
  | c :: r, h => by
    have hc := h c (by simp)
    simp only [dd, List.dropWhile_cons, hc, if_true]
    exact dd_of_Dg (l := r) (fun x hx => h x (by simp [hx]))
theorem dd_app : ∀ {a : List UInt8} (b : List UInt8), Dg a → (∀ c r, b = c :: r → dgB c = false) → dd (a ++ b) = b
  | [], b, _, hb => by
    cases b with
    | nil => rfl
    | cons c r => simp [dd, hb c r rfl]
  | x :: a, b, h, hb => by
    have hx := h x (by simp)
    simp only [dd, List.cons_append, List.dropWhile_cons, hx, if_true]
    exact dd_app (a := a) b (fun y hy => h y (by simp [hy])) hb

/-! ### what a literal is made of -/
/-- A JSON number, told by its parts: sign, whole, fraction, exponent. -/
def OkF (F : List UInt8) : Prop := F = [] ∨ ∃ f, Dg f ∧ F = 46 :: f
def OkX (X : List UInt8) : Prop := X = [] ∨ ∃ e s x, (e = 101 ∨ e = 69) ∧ (s = [] ∨ s = [43] ∨ s = [45]) ∧ Dg x ∧ x ≠ [] ∧ X = e :: (s ++ x)
structure Lit (l sg I F X : List UInt8) : Prop where
  eq : l = sg ++ (I ++ (F ++ X))
  hs : sg = [] ∨ sg = [45]
  hI : Dg I
  hn : I ≠ []
  hF : OkF F
  hX : OkX X

theorem u8_eq {c : UInt8} {n : Nat} (hn : n < 256) (h : c.toNat = n) : c = UInt8.ofNat n := by
  apply UInt8.toNat_inj.1
  rw [h, UInt8.toNat_ofNat']
  omega
theorem js4_Dg {q : List UInt8} (hq : js4 q = true) : Dg q ∧ q ≠ [] := by
  simp only [js4, Bool.and_eq_true, decide_eq_true_eq, List.isEmpty_iff] at hq
  obtain ⟨a, h1, h2, _⟩ := dd_split q
  rw [hq.2, List.append_nil] at h2
  refine ⟨by rw [h2]; exact h1, fun e => ?_⟩
  rw [e] at hq
  simp at hq
theorem js3_lit {l : List UInt8} (h : js3 l = true) : OkX l := by
  cases l with
  | nil => exact .inl rfl
  | cons c r =>
    right
    rw [js3] at h
    by_cases hc : c.toNat = 101 ∨ c.toNat = 69
    · rw [if_pos hc] at h
      have hc' : c = 101 ∨ c = 69 := by
        rcases hc with hc | hc
        · exact .inl (u8_eq (n := 101) (by omega) hc)
        · exact .inr (u8_eq (n := 69) (by omega) hc)
      cases r with
      | nil => cases h
      | cons d q =>
        rw [js3e] at h
        by_cases hd : d.toNat = 43 ∨ d.toNat = 45
        · rw [if_pos hd] at h
          obtain ⟨k1, k2⟩ := js4_Dg h
          rcases hd with hd | hd
          · exact ⟨c, [43], q, hc', .inr (.inl rfl), k1, k2, by rw [u8_eq (n := 43) (by omega) hd]; rfl⟩
          · exact ⟨c, [45], q, hc', .inr (.inr rfl), k1, k2, by rw [u8_eq (n := 45) (by omega) hd]; rfl⟩
        · rw [if_neg hd] at h
          obtain ⟨k1, k2⟩ := js4_Dg h
          exact ⟨c, [], d :: q, hc', .inl rfl, k1, k2, rfl⟩
    · rw [if_neg hc] at h; cases h
theorem js2_lit {l : List UInt8} (h : js2 l = true) : ∃ F X, l = F ++ X ∧ OkF F ∧ OkX X := by
  cases l with
  | nil => exact ⟨[], [], rfl, .inl rfl, .inl rfl⟩
  | cons c r =>
    rw [js2] at h
    by_cases hc : c.toNat = 46
    · rw [if_pos hc] at h
      simp only [Bool.and_eq_true] at h
      obtain ⟨a, h1, h2, _⟩ := dd_split r
      exact ⟨46 :: a, dd r, by rw [u8_eq (n := 46) (by omega) hc, List.cons_append, ← h2]; rfl, .inr ⟨a, h1, rfl⟩, js3_lit h.2⟩
    · rw [if_neg hc] at h
      exact ⟨[], c :: r, rfl, .inl rfl, js3_lit h⟩
theorem js1_lit {l : List UInt8} (h : js1 l = true) : ∃ I F X, l = I ++ (F ++ X) ∧ Dg I ∧ I ≠ [] ∧ OkF F ∧ OkX X := by
  cases l with
  | nil => cases h
  | cons c r =>
    rw [js1] at h
    by_cases hc : c.toNat = 48
    · rw [if_pos hc] at h
      obtain ⟨F, X, h1, h2, h3⟩ := js2_lit h
      exact ⟨[c], F, X, by rw [h1]; rfl, Dg_cons (by simp [dgB, hc]) Dg_nil, by simp, h2, h3⟩
    · rw [if_neg hc] at h
      by_cases hd : 49 ≤ c.toNat ∧ c.toNat ≤ 57
      · rw [if_pos hd] at h
        obtain ⟨F, X, h1, h2, h3⟩ := js2_lit h
        obtain ⟨a, k1, k2, k3⟩ := dd_split (c :: r)
        refine ⟨a, F, X, by rw [← h1]; exact k2, k1, fun e => ?_, h2, h3⟩
        rw [e, List.nil_append] at k2
        have := k3 c r k2.symm
        simp [dgB] at this
        omega
      · rw [if_neg hd] at h; cases h
theorem json_lit {l : List UInt8} (h : jsonB l = true) : ∃ sg I F X, Lit l sg I F X := by
  cases l with
  | nil => cases h
  | cons c r =>
    rw [jsonB] at h
    by_cases hc : c.toNat = 45
    · rw [if_pos hc] at h
      obtain ⟨I, F, X, h1, h2, h3, h4, h5⟩ := js1_lit h
      exact ⟨[45], I, F, X, by rw [h1, u8_eq (n := 45) (by omega) hc]; rfl, .inr rfl, h2, h3, h4, h5⟩
    · rw [if_neg hc] at h
      obtain ⟨I, F, X, h1, h2, h3, h4, h5⟩ := js1_lit h
      exact ⟨[], I, F, X, by rw [h1]; rfl, .inl rfl, h2, h3, h4, h5⟩
end Go.Proofs.Qxb6606282aDoor
