import Derived.Test.Qxb6600516aDoorProg
import Derived.Test.Qxb6600516aDoorPlain
import Derived.WalkKit
import Derived.WalkSpells
import Derived.WalkLawsBesides
namespace Go.Proofs.Qxb6600516aDoor
open Go.RowKit

theorem hide {p : Prop} (h : p) : Hid p := h
theorem ret_bool {a b : Bool} (h : a = b) : Ending.returned (.bool a) = .returned (.bool b) := by rw [h]

set_option maxHeartbeats 400000 in
theorem isDigit_any (c : UInt8) (w : World) :
    Calls Tryd.prog 23 #[.int .u8 c.toNat] w fun e w' => e = .returned (.bool (dgB c)) ∧ w' = w := by
  go_enter Tryd.func23, Tryd.ntmps23
  go_wp2
  all_goals
    go_ret
    exact ⟨ret_bool (by rw [Bool.eq_iff_iff]; simp [dgB] at * <;> omega), rfl⟩

set_option maxHeartbeats 400000 in
theorem isIdent_any (c : UInt8) (w : World) :
    Calls Tryd.prog 22 #[.int .u8 c.toNat] w fun e w' => e = .returned (.bool (idB c)) ∧ w' = w := by
  go_enter Tryd.func22, Tryd.ntmps22
  go_wp2
  all_goals
    go_ret
    exact ⟨ret_bool (by rw [Bool.eq_iff_iff]; simp [idB] at * <;> omega), rfl⟩

set_option maxHeartbeats 400000 in
theorem zzBytes_any (s : ByteArray) (b : Bool) (hn : s.size ≤ 1048576) (w : World) :
    Calls Tryd.prog 9 #[.string s, .bool b] w fun e w' => e = .returned (.bool true) ∧ w' = w := by
  have hn' : (s.size : Int) ≤ 1048576 := by omega
  go_enter Tryd.func9, Tryd.ntmps9
  go_wp2
  go_ret
  exact ⟨rfl, rfl⟩
set_option maxHeartbeats 400000 in
theorem zzBytes_no (s : ByteArray) (b : Bool) (hn : ¬ s.size ≤ 1048576) (w : World) :
    Calls Tryd.prog 9 #[.string s, .bool b] w fun e w' => e = .returned (.bool false) ∧ w' = w := by
  have hn' : 1048576 < (s.size : Int) := by omega
  go_enter Tryd.func9, Tryd.ntmps9
  go_wp2
  go_ret
  exact ⟨rfl, rfl⟩

theorem drop_at (s : ByteArray) (k : Nat) (h : k < s.size) : s.data.toList.drop k = s[k] :: s.data.toList.drop (k + 1) := by
  rw [List.drop_eq_getElem_cons (by simpa using h)]; rfl
theorem drop_end (s : ByteArray) (k : Nat) (h : s.size ≤ k) : s.data.toList.drop k = [] := List.drop_of_length_le (by simpa using h)

theorem md_dot_no {nz a z : Bool} {c : UInt8} {r : List UInt8} {m : Nat} (hc : c.toNat = 46) (h : m = 0 ∨ (m ≠ 0 ∧ nz = true ∧ a = true ∧ z = true ∧ 1 < m)) : md nz (c :: r) m a z = false := by
  rw [md, if_pos hc]
  rcases h with h | ⟨h0, rfl, rfl, rfl, h⟩
  · rw [if_pos h]
  · rw [if_neg h0]; simp [h]
theorem md_dot_go {nz a z : Bool} {c : UInt8} {r : List UInt8} {m : Nat} (hc : c.toNat = 46) (h0 : m ≠ 0) (h : nz = false ∨ (nz = true ∧ a = false) ∨ (nz = true ∧ a = true ∧ z = false) ∨ (nz = true ∧ a = true ∧ z = true ∧ m ≤ 1)) : md nz (c :: r) m a z = md nz r 0 true false := by
  rw [md, if_pos hc, if_neg h0]
  rcases h with rfl | ⟨rfl, rfl⟩ | ⟨rfl, rfl, rfl⟩ | ⟨rfl, rfl, rfl, h⟩
  · simp
  · simp
  · simp
  · rw [if_neg (by simp; omega)]
theorem md_bad {nz a z : Bool} {c : UInt8} {r : List UInt8} {m : Nat} (hc : c.toNat ≠ 46) (h : idB c = false) : md nz (c :: r) m a z = false := by
  rw [md, if_neg hc, if_pos h]
theorem md_step {nz a z : Bool} {c : UInt8} {r : List UInt8} {m : Nat} (hc : c.toNat ≠ 46) (h : idB c = true) : md nz (c :: r) m a z = md nz r (m + 1) (a && dgB c) (if m = 0 then c.toNat == 48 else z) := by
  rw [md, if_neg hc, if_neg (by simp [h])]
theorem md_end_no {nz a z : Bool} {m : Nat} (h : m = 0 ∨ (m ≠ 0 ∧ nz = true ∧ a = true ∧ z = true ∧ 1 < m)) : md nz [] m a z = false := by
  rw [md]
  rcases h with h | ⟨h0, rfl, rfl, rfl, h⟩
  · rw [if_pos h]
  · rw [if_neg h0]; simp [h]
theorem md_end_go {nz a z : Bool} {m : Nat} (h0 : m ≠ 0) (h : nz = false ∨ (nz = true ∧ a = false) ∨ (nz = true ∧ a = true ∧ z = false) ∨ (nz = true ∧ a = true ∧ z = true ∧ m ≤ 1)) : md nz [] m a z = true := by
  rw [md, if_neg h0]
  rcases h with rfl | ⟨rfl, rfl⟩ | ⟨rfl, rfl, rfl⟩ | ⟨rfl, rfl, rfl, h⟩
  · simp
  · simp
  · simp
  · have : ¬ 1 < m := by omega
    simp [this]

/-- What holds at the head of the automaton's loop. -/
def MR (s : ByteArray) (nz : Bool) (n ad lz i : Value) : Prop :=
  ∃ (k m : Nat) (a z : Bool), n = .int .i64 m ∧ ad = .bool a ∧ lz = .bool z ∧ i = .int .i64 k ∧ k ≤ s.size + 1 ∧ m ≤ k ∧ (k ≤ s.size → md nz (s.data.toList.drop k) m a z = md nz s.data.toList 0 true false) ∧ (k = s.size + 1 → md nz s.data.toList 0 true false = true)
theorem MR.mk {s : ByteArray} {nz : Bool} (k m : Nat) (a z : Bool) (h1 : k ≤ s.size + 1) (h2 : m ≤ k) (h3 : k ≤ s.size → md nz (s.data.toList.drop k) m a z = md nz s.data.toList 0 true false) (h4 : k = s.size + 1 → md nz s.data.toList 0 true false = true) :
    MR s nz (.int .i64 m) (.bool a) (.bool z) (.int .i64 k) := ⟨k, m, a, z, rfl, rfl, rfl, rfl, h1, h2, h3, h4⟩
theorem MR.mk' {s : ByteArray} {nz : Bool} {n i : Int} {a z : Bool} (k m : Nat) (hn : n = m) (hi : i = k) (h1 : k ≤ s.size + 1) (h2 : m ≤ k) (h3 : k ≤ s.size → md nz (s.data.toList.drop k) m a z = md nz s.data.toList 0 true false) (h4 : k = s.size + 1 → md nz s.data.toList 0 true false = true) :
    MR s nz (.int .i64 n) (.bool a) (.bool z) (.int .i64 i) := by
  subst hn hi
  exact MR.mk k m a z h1 h2 h3 h4
theorem cases_close (nz a z : Bool) (m : Nat) : m = 0 ∨ (m ≠ 0 ∧ nz = true ∧ a = true ∧ z = true ∧ 1 < m) ∨ (m ≠ 0 ∧ (nz = false ∨ (nz = true ∧ a = false) ∨ (nz = true ∧ a = true ∧ z = false) ∨ (nz = true ∧ a = true ∧ z = true ∧ m ≤ 1))) := by
  by_cases h0 : m = 0
  · exact .inl h0
  · by_cases h1 : 1 < m
    · cases nz <;> cases a <;> cases z <;> simp [h0, h1]
    · have h1' : m ≤ 1 := by omega
      cases nz <;> cases a <;> cases z <;> simp [h0, h1']

set_option maxRecDepth 100000 in
set_option maxHeartbeats 2000000 in
theorem model_any (s : ByteArray) (nz : Bool) (hn : s.size ≤ 65536) (w : World) :
    Calls Tryd.prog 11 #[.string s, .bool nz] w fun e w' => e = .returned (.bool (md nz s.data.toList 0 true false)) ∧ w' = w := by
  obtain ⟨R, hR⟩ : ∃ R, md nz s.data.toList 0 true false = R := ⟨_, rfl⟩
  rw [hR]
  have HR := hide hR
  clear hR
  go_enter Tryd.func11, Tryd.ntmps11
  go_wp2
  go_loop [5, 6, 7, 8] (fun n ad lz i => MR s nz n ad lz i) (fun _ _ _ i => s.size + 1 - (intOf i).toNat)
  case atStart => exact MR.mk 0 0 true false (Nat.zero_le _) (Nat.le_refl _) (fun _ => rfl) (fun h => by omega)
  case round =>
    obtain ⟨k, m, a, z, rfl, rfl, rfl, rfl, hk, hm, h1, h2⟩ := hrel
    rw [HR.out] at h1 h2
    have H1 := hide h1
    have H2 := hide h2
    clear h1 h2
    by_cases hlt : k < s.size
    · have hlt' : (k : Int) < s.size := by omega
      have hle' : (k : Int) ≤ s.size := by omega
      have hne : ((k : Int) == (s.size : Int)) = false := beq_eq_false_iff_ne.2 (by omega)
      have Hs : Hid (md nz (s[k] :: s.data.toList.drop (k + 1)) m a z = R) := by rw [← drop_at s k hlt]; exact H1.out (by omega)
      by_cases hdot : s[k].toNat = 46
      · have hd' : ((s[k].toNat : Int) == 46) = true := by simp [hdot]
        have Hdot := hide hdot
        clear hdot
        rcases cases_close nz a z m with h0 | h0 | ⟨h0, h0'⟩
        · have hm0 : ((m : Int) == 0) = true := by simp [h0]
          have hfin : Hid (R = false) := Hs.out.symm.trans (md_dot_no Hdot.out (.inl h0))
          clear h0
          go_wp2
          go_ret
          exact ⟨ret_bool hfin.out.symm, rfl⟩
        · have hfin : Hid (R = false) := Hs.out.symm.trans (md_dot_no Hdot.out (.inr h0))
          obtain ⟨h0, rfl, rfl, rfl, h0'⟩ := h0
          have hm0 : ((m : Int) == 0) = false := by simp; omega
          have hm1 : 1 < (m : Int) := by omega
          clear h0 h0'
          go_wp2
          go_ret
          exact ⟨ret_bool hfin.out.symm, rfl⟩
        · have hfin : Hid (md nz (s.data.toList.drop (k + 1)) 0 true false = R) := by rw [← md_dot_go Hdot.out h0 h0']; exact Hs.out
          have hm0 : ((m : Int) == 0) = false := by simp; omega
          clear h0
          rcases h0' with rfl | ⟨rfl, rfl⟩ | ⟨rfl, rfl, rfl⟩ | ⟨rfl, rfl, rfl, h0'⟩
          all_goals
            go_wp2
            all_goals
              go_round
              case rel => first | exact MR.mk' (k + 1) 0 rfl (by omega) (by omega) (by omega) (fun _ => by rw [HR.out]; exact hfin.out) (fun h => by omega) | exact ⟨_, _, _, _, _, MR.mk' (k + 1) 0 (by omega) (by omega) (by omega) (by omega) (fun _ => by rw [HR.out]; exact hfin.out) (fun h => by omega), rfl, rfl, rfl, rfl, rfl⟩
              case measure => simp [intOf]; omega
      · have hd' : ((s[k].toNat : Int) == 46) = false := by simp; omega
        have Hdot := hide hdot
        clear hdot
        cases hi : idB s[k]
        · have hfin : Hid (R = false) := Hs.out.symm.trans (md_bad Hdot.out hi)
          have hC : Hid (∀ w, Calls Tryd.prog 22 #[.int .u8 s[k].toNat] w fun e w' => e = .returned (.bool false) ∧ w' = w) := by
            intro w
            have hx := isIdent_any s[k] w
            rw [hi] at hx
            exact hx
          clear hi
          go_wp2_with (go_at_call 22; refine (hC.out _).mono ?_; rintro e w' ⟨rfl, rfl⟩)
          go_ret
          exact ⟨ret_bool hfin.out.symm, rfl⟩
        · have hfin : Hid (md nz (s.data.toList.drop (k + 1)) (m + 1) (a && dgB s[k]) (if m = 0 then s[k].toNat == 48 else z) = R) := by rw [← md_step Hdot.out hi]; exact Hs.out
          have hC : Hid (∀ w, Calls Tryd.prog 22 #[.int .u8 s[k].toNat] w fun e w' => e = .returned (.bool true) ∧ w' = w) := by
            intro w
            have hx := isIdent_any s[k] w
            rw [hi] at hx
            exact hx
          clear hi
          have hC2 : Hid (∀ b, dgB s[k] = b → ∀ w, Calls Tryd.prog 23 #[.int .u8 s[k].toNat] w fun e w' => e = .returned (.bool b) ∧ w' = w) := by
            rintro b rfl w
            exact isDigit_any s[k] w
          obtain ⟨d, hd⟩ : ∃ d, dgB s[k] = d := ⟨_, rfl⟩
          rw [hd] at hfin
          have hC3 := hide (hC2.out d hd)
          clear hC2 hd
          by_cases h0 : m = 0
          · have hm0 : ((m : Int) == 0) = true := by simp [h0]
            rw [if_pos h0] at hfin
            have hb : ((s[k].toNat : Int) == 48) = (s[k].toNat == 48) := by rw [Bool.eq_iff_iff]; simp; omega
            have Hb := hide hb
            clear h0 hb
            cases d
            · rw [Bool.and_false] at hfin
              go_wp2_with (first | (go_at_call 22; refine (hC.out _).mono ?_; rintro e w' ⟨rfl, rfl⟩) | (go_at_call 23; refine (hC3.out _).mono ?_; rintro e w' ⟨rfl, rfl⟩))
              go_round
              case rel => exact MR.mk' (k + 1) (m + 1) (by omega) (by omega) (by omega) (by omega) (fun _ => by rw [HR.out, Hb.out]; exact hfin.out) (fun h => by omega)
              case measure => simp [intOf]; omega
            · rw [Bool.and_true] at hfin
              go_wp2_with (first | (go_at_call 22; refine (hC.out _).mono ?_; rintro e w' ⟨rfl, rfl⟩) | (go_at_call 23; refine (hC3.out _).mono ?_; rintro e w' ⟨rfl, rfl⟩))
              go_round
              case rel => exact MR.mk' (k + 1) (m + 1) (by omega) (by omega) (by omega) (by omega) (fun _ => by rw [HR.out, Hb.out]; exact hfin.out) (fun h => by omega)
              case measure => simp [intOf]; omega
          · have hm0 : ((m : Int) == 0) = false := by simp; omega
            rw [if_neg h0] at hfin
            clear h0
            cases d
            · rw [Bool.and_false] at hfin
              go_wp2_with (first | (go_at_call 22; refine (hC.out _).mono ?_; rintro e w' ⟨rfl, rfl⟩) | (go_at_call 23; refine (hC3.out _).mono ?_; rintro e w' ⟨rfl, rfl⟩))
              go_round
              case rel => exact MR.mk' (k + 1) (m + 1) (by omega) (by omega) (by omega) (by omega) (fun _ => by rw [HR.out]; exact hfin.out) (fun h => by omega)
              case measure => simp [intOf]; omega
            · rw [Bool.and_true] at hfin
              go_wp2_with (first | (go_at_call 22; refine (hC.out _).mono ?_; rintro e w' ⟨rfl, rfl⟩) | (go_at_call 23; refine (hC3.out _).mono ?_; rintro e w' ⟨rfl, rfl⟩))
              go_round
              case rel => exact MR.mk' (k + 1) (m + 1) (by omega) (by omega) (by omega) (by omega) (fun _ => by rw [HR.out]; exact hfin.out) (fun h => by omega)
              case measure => simp [intOf]; omega
    · by_cases heq : k = s.size
      · have hle' : (k : Int) ≤ s.size := by omega
        have hne : ((k : Int) == (s.size : Int)) = true := beq_iff_eq.2 (by omega)
        have Hs : Hid (md nz [] m a z = R) := by rw [← drop_end s k (by omega)]; exact H1.out (by omega)
        have Heq := hide heq
        clear heq hlt
        rcases cases_close nz a z m with h0 | h0 | ⟨h0, h0'⟩
        · have hm0 : ((m : Int) == 0) = true := by simp [h0]
          have hfin : Hid (R = false) := Hs.out.symm.trans (md_end_no (.inl h0))
          clear h0
          go_wp2
          go_ret
          exact ⟨ret_bool hfin.out.symm, rfl⟩
        · have hfin : Hid (R = false) := Hs.out.symm.trans (md_end_no (.inr h0))
          obtain ⟨h0, rfl, rfl, rfl, h0'⟩ := h0
          have hm0 : ((m : Int) == 0) = false := by simp; omega
          have hm1 : 1 < (m : Int) := by omega
          clear h0 h0'
          go_wp2
          go_ret
          exact ⟨ret_bool hfin.out.symm, rfl⟩
        · have hfin : Hid (R = true) := Hs.out.symm.trans (md_end_go h0 h0')
          have hm0 : ((m : Int) == 0) = false := by simp; omega
          have HR2 : Hid (md nz s.data.toList 0 true false = true) := HR.out.trans hfin.out
          clear h0
          rcases h0' with rfl | ⟨rfl, rfl⟩ | ⟨rfl, rfl, rfl⟩ | ⟨rfl, rfl, rfl, h0'⟩
          all_goals
            go_wp2
            all_goals
              go_round
              case rel => first | exact MR.mk' (k + 1) 0 rfl (by omega) (by omega) (by omega) (fun h => absurd h (by have := Heq.out; omega)) (fun _ => HR2.out) | exact ⟨_, _, _, _, _, MR.mk' (k + 1) 0 (by omega) (by omega) (by omega) (by omega) (fun h => absurd h (by have := Heq.out; omega)) (fun _ => HR2.out), rfl, rfl, rfl, rfl, rfl⟩
              case measure => simp [intOf]; have := Heq.out; omega
      · have hgt : ¬ ((k : Int) ≤ s.size) := by omega
        have hfin : Hid (R = true) := H2.out (by omega)
        go_wp2
        go_ret
        exact ⟨ret_bool hfin.out.symm, rfl⟩
end Go.Proofs.Qxb6600516aDoor
