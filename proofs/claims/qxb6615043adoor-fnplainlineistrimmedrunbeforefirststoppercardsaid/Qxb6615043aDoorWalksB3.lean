import Derived.Test.Qxb6615043aDoorWalksB
namespace Go.Proofs.Qxb6615043aDoor
open Go.RowKit
section
variable (b off n cap i x0 x1 x2 x3 : Nat) (w : World)

set_option maxRecDepth 100000 in
set_option maxHeartbeats 4000000 in
theorem zzDecode_three (lo hj : Nat) (hi : (i : Int) < n) (hn : n ≤ 1048576)
    (hx : (x0 = 224 ∧ lo = 160 ∧ hj = 191) ∨ (x0 = 237 ∧ lo = 128 ∧ hj = 159) ∨ (x0 ≠ 224 ∧ x0 ≠ 237 ∧ 225 ≤ x0 ∧ x0 < 240 ∧ lo = 128 ∧ hj = 191)) (h1 : x1 < 256) (h2 : x2 < 256)
    (c0 : w.cell? ⟨b, off + i, none⟩ = some (.int .u8 x0)) (c1 : i + 1 < n → w.cell? ⟨b, off + (i + 1), none⟩ = some (.int .u8 x1)) (c2 : i + 2 < n → w.cell? ⟨b, off + (i + 2), none⟩ = some (.int .u8 x2)) :
    Calls Tryd.prog 17 #[.slice (some ⟨b, off, none⟩) n cap, .int .i64 i] w fun e w' => e = .returned (.tuple #[.int .i32 (Lib.slowN (n - i) x0 x1 x2 x3 3 lo hj).1, .int .i64 (Lib.slowN (n - i) x0 x1 x2 x3 3 lo hj).2]) ∧ ∃ m, w' = w.drewN m := by
  by_cases hl : i + 2 < n
  · have hl' : 3 ≤ (n : Int) - i := by omega
    have c1' := c1 (by omega)
    have c2' := c2 (by omega)
    clear c1 c2
    cases hr1 : inB x1 lo hj
    · rw [slow_bad (n - i) x0 x1 x2 x3 (by omega) (by omega) (.inr (.inl hr1))]
      rcases hx with ⟨rfl, rfl, rfl⟩ | ⟨rfl, rfl, rfl⟩ | ⟨g1, g2, g3, g4, rfl, rfl⟩
      · have hr1' : inB x1 160 191 = false := hr1
        go_enter Tryd.func17, Tryd.ntmps17
        go_wp2_with (go_at_call 20; refine (zzIn_any _ _ _ _).mono ?_; rintro e w' ⟨rfl, rfl⟩)
        go_ret2
        exact ⟨rfl, 0, rfl⟩
      · have hr1' : inB x1 128 159 = false := hr1
        go_enter Tryd.func17, Tryd.ntmps17
        go_wp2_with (go_at_call 20; refine (zzIn_any _ _ _ _).mono ?_; rintro e w' ⟨rfl, rfl⟩)
        go_ret2
        exact ⟨rfl, 0, rfl⟩
      · have hr1' : inB x1 128 191 = false := hr1
        have g1' : ((x0 : Int) == 224) = false := beq_eq_false_iff_ne.2 (by omega)
        have g2' : ((x0 : Int) == 237) = false := beq_eq_false_iff_ne.2 (by omega)
        have g3' : 225 ≤ (x0 : Int) := by omega
        have g4' : (x0 : Int) < 240 := by omega
        clear g1 g2 g3 g4
        go_enter Tryd.func17, Tryd.ntmps17
        go_wp2_with (go_at_call 20; refine (zzIn_any _ _ _ _).mono ?_; rintro e w' ⟨rfl, rfl⟩)
        go_ret2
        exact ⟨rfl, 0, rfl⟩
    · cases hr2 : inB x2 128 191
      · rw [slow_bad (n - i) x0 x1 x2 x3 (by omega) (by omega) (.inr (.inr (.inl ⟨by omega, hr2⟩)))]
        rcases hx with ⟨rfl, rfl, rfl⟩ | ⟨rfl, rfl, rfl⟩ | ⟨g1, g2, g3, g4, rfl, rfl⟩
        · have hr1' : inB x1 160 191 = true := hr1
          go_enter Tryd.func17, Tryd.ntmps17
          go_wp2_with (go_at_call 20; refine (zzIn_any _ _ _ _).mono ?_; rintro e w' ⟨rfl, rfl⟩)
          go_ret2
          exact ⟨rfl, 0, rfl⟩
        · have hr1' : inB x1 128 159 = true := hr1
          go_enter Tryd.func17, Tryd.ntmps17
          go_wp2_with (go_at_call 20; refine (zzIn_any _ _ _ _).mono ?_; rintro e w' ⟨rfl, rfl⟩)
          go_ret2
          exact ⟨rfl, 0, rfl⟩
        · have hr1' : inB x1 128 191 = true := hr1
          have g1' : ((x0 : Int) == 224) = false := beq_eq_false_iff_ne.2 (by omega)
          have g2' : ((x0 : Int) == 237) = false := beq_eq_false_iff_ne.2 (by omega)
          have g3' : 225 ≤ (x0 : Int) := by omega
          have g4' : (x0 : Int) < 240 := by omega
          clear g1 g2 g3 g4
          go_enter Tryd.func17, Tryd.ntmps17
          go_wp2_with (go_at_call 20; refine (zzIn_any _ _ _ _).mono ?_; rintro e w' ⟨rfl, rfl⟩)
          go_ret2
          exact ⟨rfl, 0, rfl⟩
      · rw [slow_three (n - i) x0 x1 x2 x3 (by omega) hr1 hr2]
        rcases hx with ⟨rfl, rfl, rfl⟩ | ⟨rfl, rfl, rfl⟩ | ⟨g1, g2, g3, g4, rfl, rfl⟩
        · have hr1' : inB x1 160 191 = true := hr1
          go_enter Tryd.func17, Tryd.ntmps17
          go_wp2_with (go_at_call 20; refine (zzIn_any _ _ _ _).mono ?_; rintro e w' ⟨rfl, rfl⟩)
          go_quiet (fail)
          go_wp2
          go_ret2
          exact ⟨ret_two (by omega) (by omega), _, rfl⟩
        · have hr1' : inB x1 128 159 = true := hr1
          go_enter Tryd.func17, Tryd.ntmps17
          go_wp2_with (go_at_call 20; refine (zzIn_any _ _ _ _).mono ?_; rintro e w' ⟨rfl, rfl⟩)
          go_quiet (fail)
          go_wp2
          go_ret2
          exact ⟨ret_two (by omega) (by omega), _, rfl⟩
        · have hr1' : inB x1 128 191 = true := hr1
          have g1' : ((x0 : Int) == 224) = false := beq_eq_false_iff_ne.2 (by omega)
          have g2' : ((x0 : Int) == 237) = false := beq_eq_false_iff_ne.2 (by omega)
          have g3' : 225 ≤ (x0 : Int) := by omega
          have g4' : (x0 : Int) < 240 := by omega
          clear g1 g2 g3 g4
          go_enter Tryd.func17, Tryd.ntmps17
          go_wp2_with (go_at_call 20; refine (zzIn_any _ _ _ _).mono ?_; rintro e w' ⟨rfl, rfl⟩)
          go_quiet (fail)
          go_wp2
          go_ret2
          exact ⟨ret_two (by omega) (by omega), _, rfl⟩
  · have hl' : (n : Int) - i < 3 := by omega
    rw [slow_bad (n - i) x0 x1 x2 x3 (by omega) (by omega) (.inl (by omega))]
    rcases hx with ⟨rfl, rfl, rfl⟩ | ⟨rfl, rfl, rfl⟩ | ⟨g1, g2, g3, g4, rfl, rfl⟩
    · go_enter Tryd.func17, Tryd.ntmps17
      go_wp2_with (go_at_call 20; refine (zzIn_any _ _ _ _).mono ?_; rintro e w' ⟨rfl, rfl⟩)
      go_ret2
      exact ⟨rfl, 0, rfl⟩
    · go_enter Tryd.func17, Tryd.ntmps17
      go_wp2_with (go_at_call 20; refine (zzIn_any _ _ _ _).mono ?_; rintro e w' ⟨rfl, rfl⟩)
      go_ret2
      exact ⟨rfl, 0, rfl⟩
    · have g1' : ((x0 : Int) == 224) = false := beq_eq_false_iff_ne.2 (by omega)
      have g2' : ((x0 : Int) == 237) = false := beq_eq_false_iff_ne.2 (by omega)
      have g3' : 225 ≤ (x0 : Int) := by omega
      have g4' : (x0 : Int) < 240 := by omega
      clear g1 g2 g3 g4
      go_enter Tryd.func17, Tryd.ntmps17
      go_wp2_with (go_at_call 20; refine (zzIn_any _ _ _ _).mono ?_; rintro e w' ⟨rfl, rfl⟩)
      go_ret2
      exact ⟨rfl, 0, rfl⟩

end
end Go.Proofs.Qxb6615043aDoor
