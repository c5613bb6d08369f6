import Derived.Test.Qxb6615043aDoorWalksB
namespace Go.Proofs.Qxb6615043aDoor
open Go.RowKit
section
variable (b off n cap i x0 x1 x2 x3 : Nat) (w : World)

set_option maxRecDepth 100000 in
set_option maxHeartbeats 4000000 in
theorem zzDecode_four (lo hj : Nat) (hi : (i : Int) < n) (hn : n ≤ 1048576)
    (hx : (x0 = 240 ∧ lo = 144 ∧ hj = 191) ∨ (x0 = 244 ∧ lo = 128 ∧ hj = 143) ∨ (241 ≤ x0 ∧ x0 < 244 ∧ lo = 128 ∧ hj = 191)) (h1 : x1 < 256) (h2 : x2 < 256) (h3 : x3 < 256)
    (c0 : w.cell? ⟨b, off + i, none⟩ = some (.int .u8 x0)) (c1 : i + 1 < n → w.cell? ⟨b, off + (i + 1), none⟩ = some (.int .u8 x1)) (c2 : i + 2 < n → w.cell? ⟨b, off + (i + 2), none⟩ = some (.int .u8 x2)) (c3 : i + 3 < n → w.cell? ⟨b, off + (i + 3), none⟩ = some (.int .u8 x3)) :
    Calls Tryd.prog 17 #[.slice (some ⟨b, off, none⟩) n cap, .int .i64 i] w fun e w' => e = .returned (.tuple #[.int .i32 (Lib.slowN (n - i) x0 x1 x2 x3 4 lo hj).1, .int .i64 (Lib.slowN (n - i) x0 x1 x2 x3 4 lo hj).2]) ∧ ∃ m, w' = w.drewN m := by
  by_cases hl : i + 3 < n
  · have hl' : 4 ≤ (n : Int) - i := by omega
    have c1' := c1 (by omega)
    have c2' := c2 (by omega)
    have c3' := c3 (by omega)
    clear c1 c2 c3
    cases hr1 : inB x1 lo hj
    · rw [slow_bad (n - i) x0 x1 x2 x3 (by omega) (by omega) (.inr (.inl hr1))]
      rcases hx with ⟨rfl, rfl, rfl⟩ | ⟨rfl, rfl, rfl⟩ | ⟨g3, g4, rfl, rfl⟩
      · have hr1' : inB x1 144 191 = false := hr1
        go_enter Tryd.func17, Tryd.ntmps17
        go_wp2_with (go_at_call 20; refine (zzIn_any _ _ _ _).mono ?_; rintro e w' ⟨rfl, rfl⟩)
        go_ret2
        exact ⟨rfl, 0, rfl⟩
      · have hr1' : inB x1 128 143 = false := hr1
        go_enter Tryd.func17, Tryd.ntmps17
        go_wp2_with (go_at_call 20; refine (zzIn_any _ _ _ _).mono ?_; rintro e w' ⟨rfl, rfl⟩)
        go_ret2
        exact ⟨rfl, 0, rfl⟩
      · have hr1' : inB x1 128 191 = false := hr1
        have g1' : ((x0 : Int) == 240) = false := beq_eq_false_iff_ne.2 (by omega)
        have g2' : ((x0 : Int) == 244) = false := beq_eq_false_iff_ne.2 (by omega)
        have g3' : 241 ≤ (x0 : Int) := by omega
        have g4' : (x0 : Int) < 244 := by omega
        clear g3 g4
        go_enter Tryd.func17, Tryd.ntmps17
        go_wp2_with (go_at_call 20; refine (zzIn_any _ _ _ _).mono ?_; rintro e w' ⟨rfl, rfl⟩)
        go_ret2
        exact ⟨rfl, 0, rfl⟩
    · cases hr2 : inB x2 128 191
      · rw [slow_bad (n - i) x0 x1 x2 x3 (by omega) (by omega) (.inr (.inr (.inl ⟨by omega, hr2⟩)))]
        rcases hx with ⟨rfl, rfl, rfl⟩ | ⟨rfl, rfl, rfl⟩ | ⟨g3, g4, rfl, rfl⟩
        · have hr1' : inB x1 144 191 = true := hr1
          go_enter Tryd.func17, Tryd.ntmps17
          go_wp2_with (go_at_call 20; refine (zzIn_any _ _ _ _).mono ?_; rintro e w' ⟨rfl, rfl⟩)
          go_ret2
          exact ⟨rfl, 0, rfl⟩
        · have hr1' : inB x1 128 143 = true := hr1
          go_enter Tryd.func17, Tryd.ntmps17
          go_wp2_with (go_at_call 20; refine (zzIn_any _ _ _ _).mono ?_; rintro e w' ⟨rfl, rfl⟩)
          go_ret2
          exact ⟨rfl, 0, rfl⟩
        · have hr1' : inB x1 128 191 = true := hr1
          have g1' : ((x0 : Int) == 240) = false := beq_eq_false_iff_ne.2 (by omega)
          have g2' : ((x0 : Int) == 244) = false := beq_eq_false_iff_ne.2 (by omega)
          have g3' : 241 ≤ (x0 : Int) := by omega
          have g4' : (x0 : Int) < 244 := by omega
          clear g3 g4
          go_enter Tryd.func17, Tryd.ntmps17
          go_wp2_with (go_at_call 20; refine (zzIn_any _ _ _ _).mono ?_; rintro e w' ⟨rfl, rfl⟩)
          go_ret2
          exact ⟨rfl, 0, rfl⟩
      · cases hr3 : inB x3 128 191
        · rw [slow_bad (n - i) x0 x1 x2 x3 (by omega) (by omega) (.inr (.inr (.inr ⟨by omega, hr3⟩)))]
          rcases hx with ⟨rfl, rfl, rfl⟩ | ⟨rfl, rfl, rfl⟩ | ⟨g3, g4, rfl, rfl⟩
          · have hr1' : inB x1 144 191 = true := hr1
            go_enter Tryd.func17, Tryd.ntmps17
            go_wp2_with (go_at_call 20; refine (zzIn_any _ _ _ _).mono ?_; rintro e w' ⟨rfl, rfl⟩)
            go_ret2
            exact ⟨rfl, 0, rfl⟩
          · have hr1' : inB x1 128 143 = true := hr1
            go_enter Tryd.func17, Tryd.ntmps17
            go_wp2_with (go_at_call 20; refine (zzIn_any _ _ _ _).mono ?_; rintro e w' ⟨rfl, rfl⟩)
            go_ret2
            exact ⟨rfl, 0, rfl⟩
          · have hr1' : inB x1 128 191 = true := hr1
            have g1' : ((x0 : Int) == 240) = false := beq_eq_false_iff_ne.2 (by omega)
            have g2' : ((x0 : Int) == 244) = false := beq_eq_false_iff_ne.2 (by omega)
            have g3' : 241 ≤ (x0 : Int) := by omega
            have g4' : (x0 : Int) < 244 := by omega
            clear g3 g4
            go_enter Tryd.func17, Tryd.ntmps17
            go_wp2_with (go_at_call 20; refine (zzIn_any _ _ _ _).mono ?_; rintro e w' ⟨rfl, rfl⟩)
            go_ret2
            exact ⟨rfl, 0, rfl⟩
        · rw [slow_four (n - i) x0 x1 x2 x3 (by omega) hr1 hr2 hr3]
          rcases hx with ⟨rfl, rfl, rfl⟩ | ⟨rfl, rfl, rfl⟩ | ⟨g3, g4, rfl, rfl⟩
          · have hr1' : inB x1 144 191 = true := hr1
            go_enter Tryd.func17, Tryd.ntmps17
            go_wp2_with (go_at_call 20; refine (zzIn_any _ _ _ _).mono ?_; rintro e w' ⟨rfl, rfl⟩)
            go_quiet (fail)
            go_wp2
            go_ret2
            exact ⟨ret_two (by omega) (by omega), _, rfl⟩
          · have hr1' : inB x1 128 143 = true := hr1
            go_enter Tryd.func17, Tryd.ntmps17
            go_wp2_with (go_at_call 20; refine (zzIn_any _ _ _ _).mono ?_; rintro e w' ⟨rfl, rfl⟩)
            go_quiet (fail)
            go_wp2
            go_ret2
            exact ⟨ret_two (by omega) (by omega), _, rfl⟩
          · have hr1' : inB x1 128 191 = true := hr1
            have g1' : ((x0 : Int) == 240) = false := beq_eq_false_iff_ne.2 (by omega)
            have g2' : ((x0 : Int) == 244) = false := beq_eq_false_iff_ne.2 (by omega)
            have g3' : 241 ≤ (x0 : Int) := by omega
            have g4' : (x0 : Int) < 244 := by omega
            clear g3 g4
            go_enter Tryd.func17, Tryd.ntmps17
            go_wp2_with (go_at_call 20; refine (zzIn_any _ _ _ _).mono ?_; rintro e w' ⟨rfl, rfl⟩)
            go_quiet (fail)
            go_wp2
            go_ret2
            exact ⟨ret_two (by omega) (by omega), _, rfl⟩
  · have hl' : (n : Int) - i < 4 := by omega
    rw [slow_bad (n - i) x0 x1 x2 x3 (by omega) (by omega) (.inl (by omega))]
    rcases hx with ⟨rfl, rfl, rfl⟩ | ⟨rfl, rfl, rfl⟩ | ⟨g3, g4, rfl, rfl⟩
    · go_enter Tryd.func17, Tryd.ntmps17
      go_wp2_with (go_at_call 20; refine (zzIn_any _ _ _ _).mono ?_; rintro e w' ⟨rfl, rfl⟩)
      go_ret2
      exact ⟨rfl, 0, rfl⟩
    · go_enter Tryd.func17, Tryd.ntmps17
      go_wp2_with (go_at_call 20; refine (zzIn_any _ _ _ _).mono ?_; rintro e w' ⟨rfl, rfl⟩)
      go_ret2
      exact ⟨rfl, 0, rfl⟩
    · have g1' : ((x0 : Int) == 240) = false := beq_eq_false_iff_ne.2 (by omega)
      have g2' : ((x0 : Int) == 244) = false := beq_eq_false_iff_ne.2 (by omega)
      have g3' : 241 ≤ (x0 : Int) := by omega
      have g4' : (x0 : Int) < 244 := by omega
      clear g3 g4
      go_enter Tryd.func17, Tryd.ntmps17
      go_wp2_with (go_at_call 20; refine (zzIn_any _ _ _ _).mono ?_; rintro e w' ⟨rfl, rfl⟩)
      go_ret2
      exact ⟨rfl, 0, rfl⟩

end
end Go.Proofs.Qxb6615043aDoor
