import Derived.Test.Qxb6615043aDoorLaw
namespace Go.Proofs.Qxb6615043aDoor
open Go.RowKit

set_option maxRecDepth 100000 in
set_option maxHeartbeats 1000000 in
/-- The law, the nil text. -/
theorem law_nil {w : World} (h2 : 2 ≤ w.heap.size) (hT : Lib.Utf8Tabs 0 1 w) (p c : Int) :
    Calls Tryd.prog 3 #[.slice none 0 0, .int .i64 p, .int .i64 c] w fun e w' => e = .returned (.bool true) ∧ Below w.heap.size w w' := by
  have HT := hide hT
  clear hT
  by_cases hp0 : p < 0
  · go_enter Tryd.func3, Tryd.ntmps3
    go_wp2_with (go_at_call 5; refine (zzBytes_any _ _ _ _ _ (Nat.zero_le _) _).mono ?_; rintro e w' ⟨rfl, rfl⟩)
    go_ret
    exact ⟨rfl, Below.refl _ _⟩
  by_cases hp1 : 0 < p
  · go_enter Tryd.func3, Tryd.ntmps3
    go_wp2_with (go_at_call 5; refine (zzBytes_any _ _ _ _ _ (Nat.zero_le _) _).mono ?_; rintro e w' ⟨rfl, rfl⟩)
    go_ret
    exact ⟨rfl, Below.refl _ _⟩
  obtain rfl : p = 0 := by omega
  clear hp0 hp1
  have hPA := hide (PA.made (w := w) (a := none) (l := []) (pos := 0) h2 (Nat.zero_le _) HT.out (fun h => absurd rfl h))
  have hcs : (c == 4) = true ∨ ((c == 4) = false ∧ (c == 5) = true) ∨ ((c == 4) = false ∧ (c == 5) = false) := by
    cases (c == 4) <;> cases (c == 5) <;> simp
  rcases hcs with h4 | ⟨h4, h5⟩ | ⟨h4, h5⟩
  all_goals
    go_enter Tryd.func3, Tryd.ntmps3
    go_wp2_with (go_at_call 5; refine (zzBytes_any _ _ _ _ _ (Nat.zero_le _) _).mono ?_; rintro e w' ⟨rfl, hw⟩; obtain rfl := hw.symm; clear hw)
    refine (zzPlainModel_nil _ _).mono ?_
    rintro e w1 ⟨rfl, hw⟩
    obtain rfl := hw.symm
    clear hw
    go_wp2_with fail
    refine (zzClone_nil _).mono ?_
    rintro e w2 ⟨rfl, hw⟩
    obtain rfl := hw.symm
    clear hw
    go_wp2_with fail
    refine (newParser_any _ (.inl rfl) _ _).mono ?_
    rintro e w3 ⟨rfl, rfl⟩
    go_wp2_with fail
    refine (zzPlainLine_nil hPA.out c).mono ?_
    rintro e w4 ⟨rfl, hP4, hB4⟩
    have HP4 := hide hP4
    have HBw : Hid (Below w.heap.size w w4) := ((Below.refl _ _).alloc (Nat.le_refl _) _).trans hB4
    clear hP4 hB4
    go_wp2_with fail
    refine (zzEq_empty _ _ _ _ _).mono ?_
    rintro e w5 ⟨rfl, hw⟩
    obtain rfl := hw.symm
    clear hw
    go_wp2_with fail
    refine (zzPos_any HP4.out).mono ?_
    rintro e w6 ⟨rfl, hw⟩
    obtain rfl := hw.symm
    clear hw
    go_wp2
    go_ret
    exact ⟨rfl, HBw.out⟩

set_option maxRecDepth 100000 in
set_option maxHeartbeats 400000 in
theorem zzPlainModel_empty (a : Option Addr) (cap : Nat) (w : World) (flow : Bool) :
    Calls Tryd.prog 6 #[.slice a 0 cap, .int .i64 0, .bool flow] w fun e w' => e = .returned (.int .i64 0) ∧ w' = w := by
  go_enter Tryd.func6, Tryd.ntmps6
  go_wp2
  go_loop [7] (fun v => v = .int .i64 0) (fun _ => 0)
  case atStart => rfl
  case round =>
    subst hrel
    go_wp2
    go_loop [10] (fun v => v = .int .i64 0) (fun _ => 0)
    case atStart => rfl
    case round =>
      subst hrel
      go_wp2
      go_ret
      exact ⟨rfl, rfl⟩

set_option maxRecDepth 100000 in
set_option maxHeartbeats 400000 in
theorem zzClone_empty (x : Addr) (cap : Nat) (w : World) :
    Calls Tryd.prog 7 #[.slice (some x) 0 cap] w fun e w' => e = .returned (.slice (some ⟨w.heap.size, 0, none⟩) 0 0) ∧ w.heap.size < w'.heap.size ∧ Below w.heap.size w w' := by
  have hq := fun w => Lib.run_eql_slice_nil (P := Tryd.prog) w 22 5 (some x) 0 cap 0 0 Tryd.underlying22
  have hmk : ∀ w, (Instr.makeSlice 22 (.int .i64 0) (.int .i64 0)).run Tryd.prog w = .ok (.slice (some ⟨w.heap.size, 0, none⟩) 0 0) (w.alloc (.cells (madeCells #[.int .u8 0] 0) 5)) :=
    run_make_row' (P := Tryd.prog) 22 5 (.int .u8 0) 1 Tryd.underlying22 Tryd.info5 rfl .i64 .i64 0 (by omega) (by omega)
  go_enter Tryd.func7, Tryd.ntmps7
  go_wp2
  go_loop [4] (fun v => v = .int .i64 0) (fun _ => 0)
  case atStart => rfl
  case round =>
    subst hrel
    go_wp2
    go_ret
    exact ⟨rfl, by simp, (Below.refl _ _).alloc (Nat.le_refl _) _⟩

set_option maxRecDepth 100000 in
set_option maxHeartbeats 1000000 in
/-- The law, an empty text that is not nil. -/
theorem law_empty {w : World} (x : Addr) (cap : Nat) (h2 : 2 ≤ w.heap.size) (hT : Lib.Utf8Tabs 0 1 w) (p c : Int) :
    Calls Tryd.prog 3 #[.slice (some x) 0 cap, .int .i64 p, .int .i64 c] w fun e w' => e = .returned (.bool true) ∧ Below w.heap.size w w' := by
  have HT := hide hT
  clear hT
  by_cases hp0 : p < 0
  · go_enter Tryd.func3, Tryd.ntmps3
    go_wp2_with (go_at_call 5; refine (zzBytes_any _ _ _ _ _ (Nat.zero_le _) _).mono ?_; rintro e w' ⟨rfl, rfl⟩)
    go_ret
    exact ⟨rfl, Below.refl _ _⟩
  by_cases hp1 : 0 < p
  · go_enter Tryd.func3, Tryd.ntmps3
    go_wp2_with (go_at_call 5; refine (zzBytes_any _ _ _ _ _ (Nat.zero_le _) _).mono ?_; rintro e w' ⟨rfl, rfl⟩)
    go_ret
    exact ⟨rfl, Below.refl _ _⟩
  obtain rfl : p = 0 := by omega
  clear hp0 hp1
  have HE : Hid (tr [] 0 (st [] 0 (flowB c) 0) = 0) := by
    have e : st [] 0 (flowB c) 0 = 0 := st_out (Nat.le_refl _)
    rw [e]; rfl
  have hcs : (c == 4) = true ∨ ((c == 4) = false ∧ (c == 5) = true) ∨ ((c == 4) = false ∧ (c == 5) = false) := by
    cases (c == 4) <;> cases (c == 5) <;> simp
  rcases hcs with h4 | ⟨h4, h5⟩ | ⟨h4, h5⟩
  all_goals
    go_enter Tryd.func3, Tryd.ntmps3
    go_wp2_with (go_at_call 5; refine (zzBytes_any _ _ _ _ _ (Nat.zero_le _) _).mono ?_; rintro e w' ⟨rfl, hw⟩; obtain rfl := hw.symm; clear hw)
    refine (zzPlainModel_empty _ _ _ _).mono ?_
    rintro e w1 ⟨rfl, hw⟩
    obtain rfl := hw.symm
    clear hw
    go_wp2_with fail
    refine (zzClone_empty _ _ _).mono ?_
    rintro e w2 ⟨rfl, hs2, hB2⟩
    have HB2 := hide hB2
    clear hB2
    have hPA := hide (PA.made (w := w2) (a := some ⟨w.heap.size, 0, none⟩) (l := []) (pos := 0) (by omega) (Nat.zero_le _) (tabs_later h2 HT.out HB2.out) (fun h => absurd rfl h))
    go_wp2_with fail
    refine (newParser_any _ (.inr ⟨_, _, _, rfl⟩) _ _).mono ?_
    rintro e w3 ⟨rfl, rfl⟩
    go_wp2_with fail
    have hx := zzPlainLine_any hPA.out (Nat.le_refl _) c
    rw [HE.out] at hx
    refine hx.mono ?_
    rintro e w4 ⟨⟨ad', rfl, _⟩, hP4, hB4⟩
    have HP4 := hide hP4
    have HBw : Hid (Below w.heap.size w w4) := (HB2.out.alloc (Nat.le_of_lt hs2) _).trans (hB4.mono (Nat.le_of_lt hs2))
    clear hx hP4 hB4
    go_wp2_with fail
    refine (zzEq_empty _ _ _ _ _).mono ?_
    rintro e w5 ⟨rfl, hw⟩
    obtain rfl := hw.symm
    clear hw
    go_wp2_with fail
    refine (zzPos_any HP4.out).mono ?_
    rintro e w6 ⟨rfl, hw⟩
    obtain rfl := hw.symm
    clear hw
    go_wp2
    go_ret
    exact ⟨rfl, HBw.out⟩
end Go.Proofs.Qxb6615043aDoor
