import Derived.Test.Qxb6615043aDoorProg
import Derived.Test.Qxb6615043aDoorPlain
import Derived.WalkKit
import Derived.WalkSpells
import Derived.WalkLawsBesides
namespace Go.Proofs.Qxb6615043aDoor
open Go.RowKit

theorem ret_bool {a b : Bool} (h : a = b) : Ending.returned (.bool a) = .returned (.bool b) := by rw [h]
theorem ret_int {k : IntKind} {a b : Int} (h : a = b) : Ending.returned (.int k a) = .returned (.int k b) := by rw [h]

set_option maxHeartbeats 400000 in
theorem zzBlank_any (b : Int) (w : World) :
    Calls Tryd.prog 14 #[.int .u8 b] w fun e w' => e = .returned (.bool (blB b)) ∧ w' = w := by
  go_enter Tryd.func14, Tryd.ntmps14
  go_wp2
  all_goals
    go_ret
    exact ⟨ret_bool (by rw [Bool.eq_iff_iff]; simp [blB] at * <;> omega), rfl⟩

set_option maxHeartbeats 400000 in
theorem isWhite_any (b : Int) (w : World) :
    Calls Tryd.prog 24 #[.int .u8 b] w fun e w' => e = .returned (.bool (blB b)) ∧ w' = w := by
  go_enter Tryd.func24, Tryd.ntmps24
  go_wp2
  all_goals
    go_ret
    exact ⟨ret_bool (by rw [Bool.eq_iff_iff]; simp [blB] at * <;> omega), rfl⟩

set_option maxHeartbeats 400000 in
theorem zzIn_any (b lo hi : Int) (w : World) :
    Calls Tryd.prog 20 #[.int .u8 b, .int .u8 lo, .int .u8 hi] w fun e w' => e = .returned (.bool (inB b lo hi)) ∧ w' = w := by
  go_enter Tryd.func20, Tryd.ntmps20
  go_wp2
  all_goals
    go_ret
    exact ⟨ret_bool (by rw [Bool.eq_iff_iff]; simp [inB]; omega), rfl⟩

set_option maxHeartbeats 400000 in
theorem isPrintable_any (b : Int) (w : World) :
    Calls Tryd.prog 32 #[.int .i32 b] w fun e w' => e = .returned (.bool (prB b)) ∧ w' = w := by
  go_enter Tryd.func32, Tryd.ntmps32
  go_wp2
  all_goals
    go_ret
    exact ⟨ret_bool (by rw [Bool.eq_iff_iff]; simp [prB] at * <;> omega), rfl⟩

set_option maxHeartbeats 400000 in
theorem isNSChar_any (b : Int) (w : World) :
    Calls Tryd.prog 29 #[.int .i32 b] w fun e w' => e = .returned (.bool (nsB b)) ∧ w' = w := by
  go_enter Tryd.func29, Tryd.ntmps29
  go_wp2_with (go_at_call 32; refine (isPrintable_any _ _).mono ?_; rintro e w' ⟨rfl, rfl⟩)
  all_goals
    go_ret
    exact ⟨ret_bool (by simp [nsB, *]), rfl⟩

set_option maxHeartbeats 400000 in
theorem isFlow_any (b : Int) (w : World) :
    Calls Tryd.prog 30 #[.int .i32 b] w fun e w' => e = .returned (.bool (flB b)) ∧ w' = w := by
  go_enter Tryd.func30, Tryd.ntmps30
  go_wp2
  all_goals
    go_ret
    exact ⟨ret_bool (by rw [Bool.eq_iff_iff]; simp [flB]; omega), rfl⟩

def flowB (c : Int) : Bool := decide (c = 4 ∨ c = 5)

set_option maxHeartbeats 400000 in
theorem plainSafeRune_any (p : Value) (r c : Int) (w : World) :
    Calls Tryd.prog 26 #[p, .int .i32 r, .int .i64 c] w fun e w' => e = .returned (.bool (safeB r (flowB c))) ∧ w' = w := by
  go_enter Tryd.func26, Tryd.ntmps26
  go_wp2_with (first | (go_at_call 29; refine (isNSChar_any _ _).mono ?_; rintro e w' ⟨rfl, rfl⟩) | (go_at_call 30; refine (isFlow_any _ _).mono ?_; rintro e w' ⟨rfl, rfl⟩))
  all_goals
    go_ret
    exact ⟨ret_bool (by simp_all [safeB, flowB]), rfl⟩

set_option maxHeartbeats 1000000 in
theorem zzSafe_any (r : Int) (fl : Bool) (w : World) :
    Calls Tryd.prog 19 #[.int .i32 r, .bool fl] w fun e w' => e = .returned (.bool (safeB r fl)) ∧ w' = w := by
  go_enter Tryd.func19, Tryd.ntmps19
  cases fl
  all_goals
    go_wp2
    all_goals
      go_ret
      exact ⟨ret_bool (by rw [Bool.eq_iff_iff]; simp [safeB, nsB, prB, flB] at * <;> omega), rfl⟩

end Go.Proofs.Qxb6615043aDoor
