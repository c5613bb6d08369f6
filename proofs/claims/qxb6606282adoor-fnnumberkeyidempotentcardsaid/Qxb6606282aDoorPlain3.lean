import Derived.Test.Qxb6606282aDoorPlain2
namespace Go.Proofs.Qxb6606282aDoor

/-! ### strings.Cut at one byte -/
theorem index_cons1 (c x : UInt8) (r : List UInt8) : Lib.index (c :: r) [x] = if c = x then 0 else if Lib.index r [x] == -1 then -1 else Lib.index r [x] + 1 := by
  rw [Lib.index]
  have e : ([x] : List UInt8).isPrefixOf (c :: r) = decide (c = x) := by
    rw [Bool.eq_iff_iff]
    simp [List.isPrefixOf]
    exact ⟨fun h => h.symm, fun h => h.symm⟩
  rw [e]
  by_cases h : c = x <;> simp [h]
theorem index_no {x : UInt8} : ∀ {l : List UInt8}, x ∉ l → Lib.index l [x] = -1
  | [], _ => rfl
  | c :: r, h => by
    rw [index_cons1, if_neg (fun e => h (by simp [e])), index_no (fun hx => h (by simp [hx]))]; rfl
theorem index_app {x : UInt8} : ∀ {a : List UInt8} (b : List UInt8), x ∉ a → Lib.index (a ++ x :: b) [x] = a.length
  | [], b, _ => by rw [List.nil_append, index_cons1, if_pos rfl]; rfl
  | c :: r, b, h => by
    rw [List.cons_append, index_cons1, if_neg (fun e => h (by simp [e])), index_app b (fun hx => h (by simp [hx]))]
    rw [if_neg (by simp)]
    simp
theorem cut_no {x : UInt8} {l : List UInt8} (h : x ∉ l) : Lib.cut l [x] = (l, [], false) := by
  unfold Lib.cut; rw [index_no h, if_neg (by decide)]
theorem cut_app {x : UInt8} {a b : List UInt8} (h : x ∉ a) : Lib.cut (a ++ x :: b) [x] = (a, b, true) := by
  unfold Lib.cut
  rw [index_app b h, if_pos (by omega)]
  simp
theorem Dg_no {l : List UInt8} {x : UInt8} (h : Dg l) (hx : dgB x = false) : x ∉ l := fun hm => by
  have := h x hm; rw [hx] at this; cases this

/-! ### what ParseDecimal makes of a literal's parts -/
theorem lower_same {c : UInt8} (h : ¬ (65 ≤ c.toNat ∧ c.toNat ≤ 90)) : Lib.lowerB c = c := by
  unfold Lib.lowerB Lib.isUpperB
  rw [if_neg]
  intro hh
  simp only [Bool.and_eq_true, decide_eq_true_eq, UInt8.le_iff_toNat_le] at hh
  exact h hh
theorem lower_list {l : List UInt8} (h : ∀ c ∈ l, ¬ (65 ≤ c.toNat ∧ c.toNat ≤ 90)) : Lib.toLowerA l = l := by
  unfold Lib.toLowerA
  conv => rhs; rw [← List.map_id l]
  exact List.map_congr_left fun c hc => by rw [lower_same (h c hc)]; rfl
theorem small_Dg {l : List UInt8} (h : Dg l) : ∀ c ∈ l, c.toNat ≤ 57 := fun c hc => (dg_ne (h c hc)).2.2.2.2.2.2.2
theorem small_F {F : List UInt8} (h : OkF F) : ∀ c ∈ F, c.toNat ≤ 57 := by
  rcases h with rfl | ⟨f, hf, rfl⟩
  · intro c hc; cases hc
  · intro c hc
    rcases List.mem_cons.1 hc with rfl | hc
    · decide
    · exact small_Dg hf c hc
theorem small_sx {s x : List UInt8} (hs : s = [] ∨ s = [43] ∨ s = [45]) (hx : Dg x) : ∀ c ∈ s ++ x, c.toNat ≤ 57 := by
  intro c hc
  rcases List.mem_append.1 hc with hc | hc
  · rcases hs with rfl | rfl | rfl
    · cases hc
    · simp at hc; subst hc; decide
    · simp at hc; subst hc; decide
  · exact small_Dg hx c hc
/-- the exponent's text, lowered -/
def lowX (X : List UInt8) : List UInt8 := match X with | [] => [] | _ :: r => 101 :: r

theorem lower_lit {I F X : List UInt8} (hI : Dg I) (hF : OkF F) (hX : OkX X) : Lib.toLowerA (I ++ (F ++ X)) = (I ++ F) ++ lowX X := by
  have e0 : Lib.toLowerA (I ++ (F ++ X)) = Lib.toLowerA I ++ (Lib.toLowerA F ++ Lib.toLowerA X) := by unfold Lib.toLowerA; simp
  rw [e0, lower_list (fun c hc => by have := small_Dg hI c hc; omega), lower_list (fun c hc => by have := small_F hF c hc; omega), List.append_assoc]
  congr 2
  rcases hX with rfl | ⟨e, s, x, he, hs, hx, _, rfl⟩
  · rfl
  · have h1 : Lib.toLowerA (s ++ x) = s ++ x := lower_list (fun c hc => by have := small_sx hs hx c hc; omega)
    have h2 : Lib.toLowerA (e :: (s ++ x)) = Lib.lowerB e :: Lib.toLowerA (s ++ x) := rfl
    rw [h2, h1]
    rcases he with rfl | rfl
    · rfl
    · rfl
theorem cut_e {I F X : List UInt8} (hI : Dg I) (hF : OkF F) (hX : OkX X) : (Lib.cut ((I ++ F) ++ lowX X) [101]).1 = I ++ F ∧ (Lib.cut ((I ++ F) ++ lowX X) [101]).2.1 = X.tail := by
  have hno : (101 : UInt8) ∉ I ++ F := fun hm => by
    have : (101 : UInt8).toNat ≤ 57 := by
      rcases List.mem_append.1 hm with h | h
      · exact small_Dg hI _ h
      · exact small_F hF _ h
    revert this; decide
  rcases hX with rfl | ⟨e, s, x, he, hs, hx, _, rfl⟩
  · rw [show (I ++ F) ++ lowX [] = I ++ F from List.append_nil _, cut_no hno]; exact ⟨rfl, rfl⟩
  · rw [show (I ++ F) ++ lowX (e :: (s ++ x)) = (I ++ F) ++ 101 :: (s ++ x) from rfl, cut_app hno]; exact ⟨rfl, rfl⟩
theorem cut_dot {I F : List UInt8} (hI : Dg I) (hF : OkF F) : (Lib.cut (I ++ F) [46]).1 = I ∧ (Lib.cut (I ++ F) [46]).2.1 = F.tail := by
  have hno : (46 : UInt8) ∉ I := Dg_no hI (by decide)
  rcases hF with rfl | ⟨f, hf, rfl⟩
  · rw [List.append_nil, cut_no hno]; exact ⟨rfl, rfl⟩
  · rw [cut_app hno]; exact ⟨rfl, rfl⟩
theorem ascii_lit {l sg I F X : List UInt8} (h : Lit l sg I F X) : ∀ c ∈ I ++ (F ++ X), c.toNat < 128 := by
  intro c hc
  rcases List.mem_append.1 hc with hc | hc
  · have := small_Dg h.hI c hc; omega
  · rcases List.mem_append.1 hc with hc | hc
    · have := small_F h.hF c hc; omega
    · rcases h.hX with rfl | ⟨e, s, x, he, hs, hx, _, rfl⟩
      · cases hc
      · rcases List.mem_cons.1 hc with rfl | hc
        · rcases he with rfl | rfl <;> decide
        · have := small_sx hs hx c hc; omega
theorem unsigned_lit {l sg I F X : List UInt8} (h : Lit l sg I F X) : Lib.trimPrefix l [45] = I ++ (F ++ X) ∧ Lib.hasPrefix l [45] = decide (sg = [45]) := by
  rw [h.eq]
  rcases h.hs with rfl | rfl
  · rw [List.nil_append]
    cases hI : I with
    | nil => exact absurd hI h.hn
    | cons c r =>
      have hc := dg_ne (h.hI c (by rw [hI]; simp))
      have hp : Lib.hasPrefix ((c :: r) ++ (F ++ X)) [45] = false := pre_no hc.2.1
      rw [trim_no hp, hp]; exact ⟨rfl, rfl⟩
  · exact ⟨trim_yes 45 _, pre_yes 45 _⟩
theorem tailF_Dg {F : List UInt8} (h : OkF F) : Dg F.tail := by
  rcases h with rfl | ⟨f, hf, rfl⟩
  · exact Dg_nil
  · exact hf
theorem tailX_form {X : List UInt8} (h : OkX X) : ∃ s x, (s = [] ∨ s = [43] ∨ s = [45]) ∧ Dg x ∧ X.tail = s ++ x := by
  rcases h with rfl | ⟨e, s, x, _, hs, hx, _, rfl⟩
  · exact ⟨[], [], .inl rfl, Dg_nil, rfl⟩
  · exact ⟨s, x, hs, hx, rfl⟩

/-! ### the key -/
/-- The significant digits. -/
def sig (I F : List UInt8) : List UInt8 := tr (tl (I ++ F.tail))
structure Cd (g : List UInt8) : Prop where
  dg : Dg g
  ne : g ≠ []
  htl : tl g = g
  htr : tr g = g
theorem sig_Cd {I F : List UInt8} (hI : Dg I) (hF : OkF F) (h : sig I F ≠ []) : Cd (sig I F) :=
  ⟨Dg_sub (Dg_app hI (tailF_Dg hF)) (fun x hx => tl_mem _ x (tr_mem _ x hx)), h, tl_tr (tl_tl _), tr_tr _⟩
def key (sg dg S : List UInt8) : List UInt8 := sg ++ ([48] ++ ((46 :: dg) ++ (101 :: S)))

theorem strI_form {n : Bool} {ds : List UInt8} (h : CI n ds) : ∃ s x, (s = [] ∨ s = [43] ∨ s = [45]) ∧ Dg x ∧ x ≠ [] ∧ strI n ds = s ++ x := by
  unfold strI
  split
  · exact ⟨[], [48], .inl rfl, Dg_cons (by decide) Dg_nil, by simp, rfl⟩
  · next h0 =>
    split
    · exact ⟨[45], ds, .inr (.inr rfl), h.dg, h0, rfl⟩
    · exact ⟨[], ds, .inl rfl, h.dg, h0, rfl⟩
theorem key_lit {sg dg : List UInt8} {n : Bool} {ds : List UInt8} (hs : sg = [] ∨ sg = [45]) (hd : Cd dg) (hc : CI n ds) : Lit (key sg dg (strI n ds)) sg [48] (46 :: dg) (101 :: strI n ds) := by
  obtain ⟨s, x, h1, h2, h3, h4⟩ := strI_form hc
  exact ⟨rfl, hs, Dg_cons (by decide) Dg_nil, by simp, .inr ⟨dg, hd.dg, rfl⟩, .inr ⟨101, s, x, .inl rfl, h1, h2, h3, by rw [h4]⟩⟩
theorem zero_lit : Lit [48] [] [48] [] [] := ⟨rfl, .inl rfl, Dg_cons (by decide) Dg_nil, by simp, .inl rfl, .inl rfl⟩
theorem sig_key {dg : List UInt8} (h : Cd dg) : sig [48] (46 :: dg) = dg ∧ tl ([48] ++ dg) = dg := by
  have e : tl ([48] ++ dg) = dg := by
    rw [show ([48] : List UInt8) ++ dg = 48 :: dg from rfl, tl_zero, h.htl]
  refine ⟨?_, e⟩
  unfold sig
  rw [List.tail_cons, e, h.htr]

theorem js4_yes {q : List UInt8} (h : Dg q) (h0 : q ≠ []) : js4 q = true := by
  unfold js4
  rw [dd_of_Dg h]
  cases q with
  | nil => exact absurd rfl h0
  | cons c r => simp
theorem js3_yes {n : Bool} {ds : List UInt8} (h : CI n ds) : js3 (101 :: strI n ds) = true := by
  obtain ⟨s, x, h1, h2, h3, h4⟩ := strI_form h
  rw [js3, if_pos (.inl rfl), h4]
  rcases h1 with rfl | rfl | rfl
  · rw [List.nil_append]
    cases hx : x with
    | nil => exact absurd hx h3
    | cons c r =>
      have hc := dg_ne (h2 c (by rw [hx]; simp))
      rw [js3e, if_neg (by omega), ← hx]
      exact js4_yes h2 h3
  · rw [show ([43] : List UInt8) ++ x = 43 :: x from rfl, js3e, if_pos (.inl rfl)]; exact js4_yes h2 h3
  · rw [show ([45] : List UInt8) ++ x = 45 :: x from rfl, js3e, if_pos (.inr rfl)]; exact js4_yes h2 h3
theorem json_key {sg dg : List UInt8} {n : Bool} {ds : List UInt8} (hs : sg = [] ∨ sg = [45]) (hd : Cd dg) (hc : CI n ds) : jsonB (key sg dg (strI n ds)) = true := by
  have h1 : js1 (48 :: 46 :: (dg ++ 101 :: strI n ds)) = true := by
    rw [js1, if_pos (show (48 : UInt8).toNat = 48 from rfl), js2, if_pos (show (46 : UInt8).toNat = 46 from rfl)]
    rw [dd_app (a := dg) _ hd.dg (fun c r he => by cases he; decide), js3_yes hc]
    have : 0 < dg.length := List.length_pos_iff.2 hd.ne
    simp
    omega
  rcases hs with rfl | rfl
  · show jsonB (48 :: 46 :: (dg ++ 101 :: strI n ds)) = true
    rw [jsonB, if_neg (by decide)]; exact h1
  · show jsonB (45 :: 48 :: 46 :: (dg ++ 101 :: strI n ds)) = true
    rw [jsonB, if_pos (show (45 : UInt8).toNat = 45 from rfl)]; exact h1
theorem json_zero : jsonB [48] = true := by decide
end Go.Proofs.Qxb6606282aDoor
