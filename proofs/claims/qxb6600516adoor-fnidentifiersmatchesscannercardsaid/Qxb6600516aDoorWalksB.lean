import Derived.Test.Qxb6600516aDoorWalksA
namespace Go.Proofs.Qxb6600516aDoor
open Go.RowKit

theorem head_at (s : ByteArray) (h : 0 < s.size) : (s.data.toList.headD 0) = s[0] := by
  have := drop_at s 0 h
  simp only [List.drop_zero] at this
  rw [this]; rfl
theorem len_data (s : ByteArray) : s.data.toList.length = s.size := by rw [Array.length_toList]; rfl
theorem ne_empty {s : ByteArray} (h : s.size ≠ 0) : s.data.toList.isEmpty = false := by
  have := len_data s
  cases hs : s.data.toList with
  | nil => rw [hs] at this; simp at this; omega
  | cons a b => rfl
theorem is_empty {s : ByteArray} (h : s.size = 0) : s.data.toList.isEmpty = true := by
  have := len_data s
  cases hs : s.data.toList with
  | nil => rfl
  | cons a b => rw [hs] at this; simp at this; omega

theorem nm_empty {s : ByteArray} (h : s.size = 0) : nmB s.data.toList = false := by
  unfold nmB; rw [is_empty h]; rfl
theorem nm_zero {s : ByteArray} (h : 1 < s.size) (h0 : (s[0]'(by omega)).toNat = 48) : nmB s.data.toList = false := by
  unfold nmB; rw [head_at s (by omega), len_data, h0]; simp [h]
theorem nm_all {s : ByteArray} (h : s.size ≠ 0) (h0 : (s[0]'(by omega)).toNat ≠ 48 ∨ s.size ≤ 1) : nmB s.data.toList = s.data.toList.all dgB := by
  unfold nmB
  rw [ne_empty h, head_at s (by omega), len_data]
  rcases h0 with h0 | h0
  · simp [h0]
  · have : ¬ 1 < s.size := by omega
    simp [this]

set_option maxRecDepth 100000 in
set_option maxHeartbeats 1000000 in
theorem isNumber_all (s : ByteArray) (hz : s.size ≠ 0) (hn : s.size ≤ 65536) (h0 : (s[0]'(by omega)).toNat ≠ 48 ∨ (s[0]'(by omega)).toNat = 48 ∧ s.size ≤ 1) (w : World) :
    Calls Tryd.prog 28 #[.string s] w fun e w' => e = .returned (.bool (s.data.toList.all dgB)) ∧ w' = w := by
  obtain ⟨R, hR⟩ : ∃ R, s.data.toList.all dgB = R := ⟨_, rfl⟩
  rw [hR]
  have HR := hide hR
  clear hR
  have he : s.toList.isEmpty = false := by rw [ByteArray.toList_eq]; exact ne_empty hz
  have hp : (0 : Int) < s.size := by omega
  rcases h0 with h0 | ⟨h0, h1⟩
  · have h0' : ((s[0].toNat : Int) == 48) = false := by simp; omega
    clear h0
    go_enter Tryd.func28, Tryd.ntmps28
    go_wp2
    go_loop [3] (fun v => ∃ k : Nat, v = .int .i64 k ∧ k ≤ s.size ∧ Hid ((s.data.toList.drop k).all dgB = R)) (fun v => s.size - (intOf v).toNat)
    case atStart => exact ⟨0, rfl, Nat.zero_le _, HR⟩
    case round =>
      obtain ⟨k, rfl, hk, hr⟩ := hrel
      by_cases hlt : k < s.size
      · have hlt' : (k : Int) < s.size := by omega
        have hd : Hid ((dgB s[k] && (s.data.toList.drop (k + 1)).all dgB) = R) := by
          have := hr.out
          rw [drop_at s k hlt, List.all_cons] at this
          exact this
        have hdg : dgB s[k] = decide (48 ≤ s[k].toNat ∧ s[k].toNat ≤ 57) := rfl
        by_cases h48 : s[k].toNat < 48
        · have h48' : ((s[k].toNat : Int) < 48) := by omega
          have hfin : Hid (R = false) := by
            rw [← hd.out, hdg, decide_eq_false (by omega)]; rfl
          clear hdg h48
          go_wp2
          go_ret
          exact ⟨ret_bool hfin.out.symm, rfl⟩
        · have h48' : ¬ ((s[k].toNat : Int) < 48) := by omega
          by_cases h57 : 57 < s[k].toNat
          · have h57' : (57 : Int) < (s[k].toNat : Int) := by omega
            have hfin : Hid (R = false) := by
              rw [← hd.out, hdg, decide_eq_false (by omega)]; rfl
            clear hdg h48 h57
            go_wp2
            go_ret
            exact ⟨ret_bool hfin.out.symm, rfl⟩
          · have h57' : ¬ ((57 : Int) < (s[k].toNat : Int)) := by omega
            have hfin : Hid ((s.data.toList.drop (k + 1)).all dgB = R) := by
              rw [← hd.out, hdg, decide_eq_true (by omega), Bool.true_and]; exact rfl
            clear hdg h48 h57
            go_wp2
            go_round
            case rel => exact ⟨k + 1, by go_num, by omega, hfin⟩
            case measure => simp [intOf]; omega
      · have hlt' : ¬ ((k : Int) < s.size) := by omega
        have hfin : Hid (R = true) := by
          have := hr.out
          rw [drop_end s k (by omega)] at this
          exact this.symm
        go_wp2
        go_ret
        exact ⟨ret_bool hfin.out.symm, rfl⟩
  · have h0' : ((s[0].toNat : Int) == 48) = true := by simp [h0]
    have h1' : ¬ ((1 : Int) < s.size) := by omega
    clear h0
    go_enter Tryd.func28, Tryd.ntmps28
    go_wp2
    go_loop [3] (fun v => ∃ k : Nat, v = .int .i64 k ∧ k ≤ s.size ∧ Hid ((s.data.toList.drop k).all dgB = R)) (fun v => s.size - (intOf v).toNat)
    case atStart => exact ⟨0, rfl, Nat.zero_le _, HR⟩
    case round =>
      obtain ⟨k, rfl, hk, hr⟩ := hrel
      by_cases hlt : k < s.size
      · have hlt' : (k : Int) < s.size := by omega
        have hd : Hid ((dgB s[k] && (s.data.toList.drop (k + 1)).all dgB) = R) := by
          have := hr.out
          rw [drop_at s k hlt, List.all_cons] at this
          exact this
        have hdg : dgB s[k] = decide (48 ≤ s[k].toNat ∧ s[k].toNat ≤ 57) := rfl
        by_cases h48 : s[k].toNat < 48
        · have h48' : ((s[k].toNat : Int) < 48) := by omega
          have hfin : Hid (R = false) := by
            rw [← hd.out, hdg, decide_eq_false (by omega)]; rfl
          clear hdg h48
          go_wp2
          go_ret
          exact ⟨ret_bool hfin.out.symm, rfl⟩
        · have h48' : ¬ ((s[k].toNat : Int) < 48) := by omega
          by_cases h57 : 57 < s[k].toNat
          · have h57' : (57 : Int) < (s[k].toNat : Int) := by omega
            have hfin : Hid (R = false) := by
              rw [← hd.out, hdg, decide_eq_false (by omega)]; rfl
            clear hdg h48 h57
            go_wp2
            go_ret
            exact ⟨ret_bool hfin.out.symm, rfl⟩
          · have h57' : ¬ ((57 : Int) < (s[k].toNat : Int)) := by omega
            have hfin : Hid ((s.data.toList.drop (k + 1)).all dgB = R) := by
              rw [← hd.out, hdg, decide_eq_true (by omega), Bool.true_and]; exact rfl
            clear hdg h48 h57
            go_wp2
            go_round
            case rel => exact ⟨k + 1, by go_num, by omega, hfin⟩
            case measure => simp [intOf]; omega
      · have hlt' : ¬ ((k : Int) < s.size) := by omega
        have hfin : Hid (R = true) := by
          have := hr.out
          rw [drop_end s k (by omega)] at this
          exact this.symm
        go_wp2
        go_ret
        exact ⟨ret_bool hfin.out.symm, rfl⟩

set_option maxRecDepth 100000 in
set_option maxHeartbeats 400000 in
theorem isNumber_any (s : ByteArray) (hn : s.size ≤ 65536) (w : World) :
    Calls Tryd.prog 28 #[.string s] w fun e w' => e = .returned (.bool (nmB s.data.toList)) ∧ w' = w := by
  by_cases hz : s.size = 0
  · rw [nm_empty hz]
    have he : s.toList.isEmpty = true := by rw [ByteArray.toList_eq]; exact is_empty hz
    go_enter Tryd.func28, Tryd.ntmps28
    go_wp2
    go_ret
    exact ⟨rfl, rfl⟩
  · by_cases h0 : (s[0]'(by omega)).toNat = 48
    · by_cases h1 : 1 < s.size
      · rw [nm_zero h1 h0]
        have he : s.toList.isEmpty = false := by rw [ByteArray.toList_eq]; exact ne_empty hz
        have hp : (0 : Int) < s.size := by omega
        have h0' : ((s[0].toNat : Int) == 48) = true := by simp [h0]
        have h1' : (1 : Int) < s.size := by omega
        clear h0
        go_enter Tryd.func28, Tryd.ntmps28
        go_wp2
        go_ret
        exact ⟨rfl, rfl⟩
      · rw [nm_all hz (.inr (by omega))]
        exact isNumber_all s hz hn (.inr ⟨h0, by omega⟩) w
    · rw [nm_all hz (.inl h0)]
      exact isNumber_all s hz hn (.inl h0) w
end Go.Proofs.Qxb6600516aDoor
