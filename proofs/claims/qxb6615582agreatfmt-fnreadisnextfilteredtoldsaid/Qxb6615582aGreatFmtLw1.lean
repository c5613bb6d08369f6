import Derived.Test.Qxb6615582aGreatFmtBase
namespace Go.Proofs.Qxb6615582aGreatFmt
open Go.RowKit

/-- The strings of a slice. -/
def Sv (w : World) (ao : Option Addr) (ss : List ByteArray) : Prop := ∀ (k : Nat) (h : k < ss.length), ∃ b o, ao = some ⟨b, o, none⟩ ∧ w.cell? ⟨b, o + k, none⟩ = some (.string ss[k])

set_option maxRecDepth 100000 in
set_option maxHeartbeats 2000000 in
/-- zzBytes_FnNextMatchesModel. -/
theorem bytes17_c {w : World} {dao : Option Addr} {dl dc : Nat} {ao : Option Addr} {cc' : Nat} {ss : List ByteArray} (hs : Sv w ao ss) (hl : dl ≤ 9223372036854775807) (hm : ss.length ≤ 9223372036854775807) (hz : ∀ s ∈ ss, s.size ≤ 9223372036854775807) :
    Calls Tryz.prog 17 #[.slice dao dl dc, .slice ao ss.length cc'] w fun e w' => w' = w ∧ (e = .returned (.bool false) ∨ (e = .returned (.bool true) ∧ dl ≤ 1048576 ∧ ss.length ≤ 1048576 ∧ ∀ s ∈ ss, s.size ≤ 1048576)) := by
  have Hs := hide hs
  have Hz := hide hz
  clear hs hz
  obtain ⟨m, hmm⟩ : ∃ m, m = ss.length := ⟨_, rfl⟩
  rw [← hmm] at hm ⊢
  have Hm := hide hmm
  clear hmm
  have hl' : (dl : Int) ≤ 9223372036854775807 := by omega
  have hm' : (m : Int) ≤ 9223372036854775807 := by omega
  go_enter Tryz.func17, Tryz.ntmps17
  by_cases h1 : 1048576 < dl
  · have h1' : (1048576 : Int) < dl := by omega
    go_wp2
    go_ret
    exact ⟨rfl, .inl rfl⟩
  · have h1' : ¬ (1048576 : Int) < dl := by omega
    by_cases h2 : 1048576 < m
    · have h2' : (1048576 : Int) < m := by omega
      go_wp2
      go_ret
      exact ⟨rfl, .inl rfl⟩
    · have h2' : ¬ (1048576 : Int) < m := by omega
      by_cases h3 : 1048576 < dl + m
      · have h3' : (1048576 : Int) < (dl : Int) + m := by omega
        go_wp2
        go_ret
        exact ⟨rfl, .inl rfl⟩
      · have h3' : ¬ (1048576 : Int) < (dl : Int) + m := by omega
        go_wp2_with fail
        go_loop [5, 6] (fun v5 v6 => ∃ (k t : Nat), v6 = .int .i64 k ∧ v5 = .int .i64 t ∧ k ≤ m ∧ t ≤ 1048576 ∧ Hid (∀ j (h : j < ss.length), j < k → ss[j].size ≤ 1048576)) (fun _ v6 => m - (intOf v6).toNat)
        case atStart => exact ⟨0, dl + m, rfl, by go_num, Nat.zero_le _, by omega, fun _ _ h => absurd h (Nat.not_lt_zero _)⟩
        case round =>
          obtain ⟨k, t, rfl, rfl, hk, ht, hP⟩ := hrel
          by_cases hkm : k < m
          · have hkm' : (k : Int) < m := by omega
            have hkl : k < ss.length := by rw [← Hm.out]; exact hkm
            obtain ⟨b, o, hao, hc⟩ := Hs.out k hkl
            obtain ⟨s, hss⟩ : ∃ s, s = ss[k] := ⟨_, rfl⟩
            rw [← hss] at hc
            subst hao
            have hsz : (s.size : Int) ≤ 9223372036854775807 := by
              have := Hz.out s (by rw [hss]; exact List.getElem_mem hkl)
              omega
            have Hss := hide hss
            have Hkl := hide hkl
            have ht' : (t : Int) ≤ 1048576 := by omega
            clear hss
            by_cases h4 : 1048576 < s.size
            · have h4' : (1048576 : Int) < s.size := by omega
              go_wp2
              go_ret
              exact ⟨rfl, .inl rfl⟩
            · have h4' : ¬ (1048576 : Int) < s.size := by omega
              by_cases h5 : 1048576 < t + s.size
              · have h5' : (1048576 : Int) < (t : Int) + s.size := by omega
                go_wp2
                go_ret
                exact ⟨rfl, .inl rfl⟩
              · have h5' : ¬ (1048576 : Int) < (t : Int) + s.size := by omega
                go_wp2
                go_round
                case rel =>
                  refine ⟨k + 1, t + s.size, by go_num, by go_num, by omega, by omega, ?_⟩
                  intro j hj hjk
                  by_cases hjk2 : j = k
                  · subst hjk2; rw [← Hss.out]; omega
                  · exact hP.out j hj (by omega)
                case measure => simp [intOf]; omega
          · have hkm' : ¬ (k : Int) < m := by omega
            go_wp2
            go_ret
            refine ⟨rfl, .inr ⟨rfl, by omega, by omega, fun s hs => ?_⟩⟩
            obtain ⟨j, hj, rfl⟩ := List.getElem_of_mem hs
            exact hP.out j hj (by rw [← Hm.out] at hj; omega)
end Go.Proofs.Qxb6615582aGreatFmt
