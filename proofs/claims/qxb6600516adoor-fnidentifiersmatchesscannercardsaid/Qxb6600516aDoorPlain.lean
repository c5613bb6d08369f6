/-
  PLAIN MATHEMATICS for the law 'identifiers agrees with a one-pass automaton': no program in sight.
-/
import Derived.Lib.Split
namespace Go.Proofs.Qxb6600516aDoor

def dgB (c : UInt8) : Bool := decide (48 ≤ c.toNat ∧ c.toNat ≤ 57)
def idB (c : UInt8) : Bool := decide ((48 ≤ c.toNat ∧ c.toNat ≤ 57) ∨ (97 ≤ c.toNat ∧ c.toNat ≤ 122) ∨ (65 ≤ c.toNat ∧ c.toNat ≤ 90) ∨ c.toNat = 45)
theorem id_of_dg {c : UInt8} (h : dgB c = true) : idB c = true := by
  simp only [dgB, idB, decide_eq_true_eq] at *; omega
theorem id_not_dot {c : UInt8} (h : c.toNat = 46) : idB c = false := by
  simp only [idB, decide_eq_false_iff_not]; omega

/-- isNumber. -/
def nmB (p : List UInt8) : Bool := !p.isEmpty && !((p.headD 0).toNat == 48 && decide (1 < p.length)) && p.all dgB
/-- One piece, scanned: none where a character may not stand; else whether all are digits (as far as dg says). -/
def scan : List UInt8 → Bool → Option Bool
  | [], dg => some dg
  | c :: r, dg => if idB c then scan r (dg && dgB c) else none
/-- One identifier as 'identifiers' takes it. -/
def pcOK (nz : Bool) (p : List UInt8) : Bool := !p.isEmpty && (match scan p true with | none => false | some dg => !(nz && dg && !nmB p))
/-- The automaton. -/
def md (nz : Bool) : List UInt8 → Nat → Bool → Bool → Bool
  | [], n, ad, lz => if n = 0 then false else !(nz && ad && lz && decide (1 < n))
  | c :: r, n, ad, lz =>
    if c.toNat = 46 then (if n = 0 then false else if nz && ad && lz && decide (1 < n) then false else md nz r 0 true false)
    else if idB c = false then false
    else md nz r (n + 1) (ad && dgB c) (if n = 0 then c.toNat == 48 else lz)
/-- Cut at every dot. -/
def sd : List UInt8 → List (List UInt8)
  | [] => [[]]
  | c :: r => if c.toNat = 46 then [] :: sd r else (match sd r with | [] => [[c]] | p :: ps => (c :: p) :: ps)
/-- What the automaton says of the rest p of a piece of which n characters are read. -/
def cl (nz : Bool) (p : List UInt8) (n : Nat) (ad lz : Bool) : Bool :=
  p.all idB && decide (n + p.length ≠ 0) && !(nz && (ad && p.all dgB) && (if n = 0 then (p.headD 0).toNat == 48 else lz) && decide (1 < n + p.length))

theorem sd_ne (l : List UInt8) : ∃ p ps, sd l = p :: ps := by
  cases l with
  | nil => exact ⟨_, _, rfl⟩
  | cons c r =>
    unfold sd
    split
    · exact ⟨_, _, rfl⟩
    · split <;> exact ⟨_, _, rfl⟩
theorem sd_dot {c : UInt8} {r : List UInt8} (h : c.toNat = 46) : sd (c :: r) = [] :: sd r := by rw [sd, if_pos h]
theorem sd_other {c : UInt8} {r : List UInt8} {p : List UInt8} {ps : List (List UInt8)} (h : c.toNat ≠ 46) (hs : sd r = p :: ps) : sd (c :: r) = (c :: p) :: ps := by
  rw [sd, if_neg h, hs]

theorem scan_all : ∀ (p : List UInt8) (dg : Bool), scan p dg = if p.all idB then some (dg && p.all dgB) else none
  | [], dg => by simp [scan]
  | c :: r, dg => by
    rw [scan]
    by_cases h : idB c = true
    · rw [if_pos h, scan_all r]
      simp [h, Bool.and_assoc]
    · rw [if_neg h]; simp [h]
theorem pc_cl (nz : Bool) (p : List UInt8) : pcOK nz p = cl nz p 0 true false := by
  unfold pcOK cl nmB
  rw [scan_all]
  cases p with
  | nil => simp
  | cons c r =>
    by_cases h : (c :: r).all idB = true
    · rw [if_pos h, h]
      by_cases hd : (c :: r).all dgB = true
      · rw [hd]; simp [Bool.or_assoc]
      · have : (c :: r).all dgB = false := by simpa using hd
        rw [this]; simp
    · have : (c :: r).all idB = false := by simpa using h
      rw [if_neg h, this]; simp

/-- THE PLAIN LAW: the automaton takes just what the pieces' check takes. -/
theorem md_cl (nz : Bool) : ∀ (l : List UInt8) (n : Nat) (ad lz : Bool) (p : List UInt8) (ps : List (List UInt8)), sd l = p :: ps → md nz l n ad lz = (cl nz p n ad lz && ps.all (pcOK nz))
  | [], n, ad, lz, p, ps, h => by
    simp only [sd, List.cons.injEq] at h
    obtain ⟨rfl, rfl⟩ := h
    rw [md]
    by_cases h0 : n = 0
    · simp [h0, cl]
    · rw [if_neg h0]; simp [cl, h0]
  | c :: r, n, ad, lz, p, ps, h => by
    obtain ⟨p', ps', hs⟩ := sd_ne r
    by_cases hc : c.toNat = 46
    · rw [sd_dot hc, hs] at h
      simp only [List.cons.injEq] at h
      obtain ⟨rfl, rfl⟩ := h
      rw [md, if_pos hc, md_cl nz r 0 true false p' ps' hs]
      by_cases h0 : n = 0
      · simp [h0, cl]
      · rw [if_neg h0]
        simp only [List.all_cons, pc_cl]
        by_cases hk : (nz && ad && lz && decide (1 < n)) = true
        · rw [if_pos hk]
          have : cl nz [] n ad lz = false := by
            unfold cl
            simp only [List.all_nil, List.length_nil, Nat.add_zero, Bool.and_true, if_neg h0, hk]
            simp
          rw [this]; rfl
        · rw [if_neg hk]
          have : cl nz [] n ad lz = true := by
            have hk' : (nz && ad && lz && decide (1 < n)) = false := by simpa using hk
            unfold cl
            simp only [List.all_nil, List.length_nil, Nat.add_zero, Bool.and_true, if_neg h0, hk']
            simp [h0]
          rw [this, Bool.true_and]
    · rw [sd_other hc hs] at h
      simp only [List.cons.injEq] at h
      obtain ⟨rfl, rfl⟩ := h
      rw [md, if_neg hc]
      cases hi : idB c
      · rw [if_pos rfl]; simp [cl, hi]
      · rw [if_neg (by simp), md_cl nz r (n + 1) _ _ p' ps' hs]
        congr 1
        unfold cl
        simp only [List.all_cons, hi, Bool.true_and, List.length_cons, List.headD_cons, if_neg (Nat.succ_ne_zero n)]
        rw [show n + 1 + p'.length = n + (p'.length + 1) from by omega]
        rw [Bool.and_assoc ad (dgB c)]
theorem md_sd (nz : Bool) (l : List UInt8) : md nz l 0 true false = (sd l).all (pcOK nz) := by
  obtain ⟨p, ps, hs⟩ := sd_ne l
  rw [md_cl nz l 0 true false p ps hs, hs, List.all_cons, pc_cl]

/-! ### the library's Split at the dot -/
theorem index_cons (c : UInt8) (r : List UInt8) : Lib.index (c :: r) [46] = if c.toNat = 46 then 0 else if Lib.index r [46] == -1 then -1 else Lib.index r [46] + 1 := by
  rw [Lib.index]
  have e : ([46] : List UInt8).isPrefixOf (c :: r) = decide (c.toNat = 46) := by
    rw [Bool.eq_iff_iff]
    simp [List.isPrefixOf]
    constructor
    · intro h; rw [← h]; rfl
    · intro h; exact (UInt8.toNat_inj.1 (by rw [h]; rfl))
  rw [e]
  by_cases h : c.toNat = 46 <;> simp [h]
theorem sd_miss : ∀ {l : List UInt8}, Lib.index l [46] = -1 → sd l = [l]
  | [], _ => rfl
  | c :: r, h => by
    rw [index_cons] at h
    by_cases hc : c.toNat = 46
    · rw [if_pos hc] at h; cases h
    · rw [if_neg hc] at h
      by_cases hr : Lib.index r [46] = -1
      · rw [sd_other hc (sd_miss hr)]
      · have := Lib.index_ge r [46]
        rw [if_neg (by simpa using hr)] at h; omega
theorem sd_hit : ∀ {l : List UInt8} {i : Nat}, Lib.index l [46] = i → sd l = l.take i :: sd (l.drop (i + 1))
  | [], i, h => by simp [Lib.index] at h
  | c :: r, i, h => by
    rw [index_cons] at h
    by_cases hc : c.toNat = 46
    · rw [if_pos hc] at h
      have : i = 0 := by omega
      subst this
      rw [sd_dot hc]; rfl
    · rw [if_neg hc] at h
      by_cases hr : Lib.index r [46] = -1
      · rw [if_pos (by simpa using hr)] at h; omega
      · rw [if_neg (by simpa using hr)] at h
        have := Lib.index_ge r [46]
        obtain ⟨j, rfl⟩ : ∃ j, i = j + 1 := ⟨i - 1, by omega⟩
        rw [sd_other hc (sd_hit (l := r) (i := j) (by omega))]
        rfl
theorem splitK_sd : ∀ (k : Nat) (l : List UInt8), Lib.count l [46] ≤ k → Lib.splitK [46] 0 k l = sd l
  | 0, l, h => by
    by_cases hi : Lib.index l [46] = -1
    · rw [sd_miss hi]; rfl
    · have := Lib.index_ge l [46]
      have hc := Lib.count_hit (s := l) (sub := [46]) (i := (Lib.index l [46]).toNat) (by simp) (by omega)
      omega
  | k + 1, l, h => by
    rw [Lib.splitK]
    by_cases hi : Lib.index l [46] = -1
    · rw [if_pos (by simpa using hi), sd_miss hi]
    · rw [if_neg (by simpa using hi)]
      have := Lib.index_ge l [46]
      have hc := Lib.count_hit (s := l) (sub := [46]) (i := (Lib.index l [46]).toNat) (by simp) (by omega)
      rw [sd_hit (l := l) (i := (Lib.index l [46]).toNat) (by omega)]
      rw [splitK_sd k _ (by simp only [List.length_cons, List.length_nil] at hc ⊢; omega)]
      rfl
theorem sd_length : ∀ (k : Nat) (l : List UInt8), Lib.count l [46] = k → (sd l).length = k + 1
  | 0, l, h => by
    by_cases hi : Lib.index l [46] = -1
    · rw [sd_miss hi]; rfl
    · have := Lib.index_ge l [46]
      have hc := Lib.count_hit (s := l) (sub := [46]) (i := (Lib.index l [46]).toNat) (by simp) (by omega)
      omega
  | k + 1, l, h => by
    by_cases hi : Lib.index l [46] = -1
    · rw [Lib.count_miss hi] at h; omega
    · have := Lib.index_ge l [46]
      have hc := Lib.count_hit (s := l) (sub := [46]) (i := (Lib.index l [46]).toNat) (by simp) (by omega)
      rw [sd_hit (l := l) (i := (Lib.index l [46]).toNat) (by omega), List.length_cons]
      rw [sd_length k _ (by simp only [List.length_cons, List.length_nil, Nat.zero_add] at hc ⊢; omega)]
end Go.Proofs.Qxb6600516aDoor
