import Derived.Test.Qxb6615582aGreatFmtLw2
namespace Go.Proofs.Qxb6615582aGreatFmt
open Go.RowKit

set_option maxRecDepth 100000 in
set_option maxHeartbeats 2000000 in
/-- zzBytes_FnReadIsNextFiltered. -/
theorem bytes23_c {w : World} {dao : Option Addr} {dl dc : Nat} {ao : Option Addr} {cc' : Nat} {ss : List ByteArray} (hs : Sv w ao ss) (hl : dl ≤ 9223372036854775807) (hm : ss.length ≤ 9223372036854775807) (hz : ∀ s ∈ ss, s.size ≤ 9223372036854775807) :
    Calls Tryz.prog 23 #[.slice dao dl dc, .slice ao ss.length cc'] w fun e w' => w' = w ∧ (e = .returned (.bool false) ∨ (e = .returned (.bool true) ∧ dl ≤ 1048576 ∧ ss.length ≤ 1048576 ∧ ∀ s ∈ ss, s.size ≤ 1048576)) := by
  have Hs := hide hs
  have Hz := hide hz
  clear hs hz
  obtain ⟨m, hmm⟩ : ∃ m, m = ss.length := ⟨_, rfl⟩
  rw [← hmm] at hm ⊢
  have Hm := hide hmm
  clear hmm
  have hl' : (dl : Int) ≤ 9223372036854775807 := by omega
  have hm' : (m : Int) ≤ 9223372036854775807 := by omega
  go_enter Tryz.func23, Tryz.ntmps23
  by_cases h1 : 1048576 < dl
  · have h1' : (1048576 : Int) < dl := by omega
    go_wp2
    go_ret
    exact ⟨rfl, .inl rfl⟩
  · have h1' : ¬ (1048576 : Int) < dl := by omega
    by_cases h2 : 1048576 < m
    · have h2' : (1048576 : Int) < m := by omega
      go_wp2
      go_ret
      exact ⟨rfl, .inl rfl⟩
    · have h2' : ¬ (1048576 : Int) < m := by omega
      by_cases h3 : 1048576 < dl + m
      · have h3' : (1048576 : Int) < (dl : Int) + m := by omega
        go_wp2
        go_ret
        exact ⟨rfl, .inl rfl⟩
      · have h3' : ¬ (1048576 : Int) < (dl : Int) + m := by omega
        go_wp2_with fail
        go_loop [5, 6] (fun v5 v6 => ∃ (k t : Nat), v6 = .int .i64 k ∧ v5 = .int .i64 t ∧ k ≤ m ∧ t ≤ 1048576 ∧ Hid (∀ j (h : j < ss.length), j < k → ss[j].size ≤ 1048576)) (fun _ v6 => m - (intOf v6).toNat)
        case atStart => exact ⟨0, dl + m, rfl, by go_num, Nat.zero_le _, by omega, fun _ _ h => absurd h (Nat.not_lt_zero _)⟩
        case round =>
          obtain ⟨k, t, rfl, rfl, hk, ht, hP⟩ := hrel
          by_cases hkm : k < m
          · have hkm' : (k : Int) < m := by omega
            have hkl : k < ss.length := by rw [← Hm.out]; exact hkm
            obtain ⟨b, o, hao, hc⟩ := Hs.out k hkl
            obtain ⟨s, hss⟩ : ∃ s, s = ss[k] := ⟨_, rfl⟩
            rw [← hss] at hc
            subst hao
            have hsz : (s.size : Int) ≤ 9223372036854775807 := by
              have := Hz.out s (by rw [hss]; exact List.getElem_mem hkl)
              omega
            have Hss := hide hss
            have Hkl := hide hkl
            have ht' : (t : Int) ≤ 1048576 := by omega
            clear hss
            by_cases h4 : 1048576 < s.size
            · have h4' : (1048576 : Int) < s.size := by omega
              go_wp2
              go_ret
              exact ⟨rfl, .inl rfl⟩
            · have h4' : ¬ (1048576 : Int) < s.size := by omega
              by_cases h5 : 1048576 < t + s.size
              · have h5' : (1048576 : Int) < (t : Int) + s.size := by omega
                go_wp2
                go_ret
                exact ⟨rfl, .inl rfl⟩
              · have h5' : ¬ (1048576 : Int) < (t : Int) + s.size := by omega
                go_wp2
                go_round
                case rel =>
                  refine ⟨k + 1, t + s.size, by go_num, by go_num, by omega, by omega, ?_⟩
                  intro j hj hjk
                  by_cases hjk2 : j = k
                  · subst hjk2; rw [← Hss.out]; omega
                  · exact hP.out j hj (by omega)
                case measure => simp [intOf]; omega
          · have hkm' : ¬ (k : Int) < m := by omega
            go_wp2
            go_ret
            refine ⟨rfl, .inr ⟨rfl, by omega, by omega, fun s hs => ?_⟩⟩
            obtain ⟨j, hj, rfl⟩ := List.getElem_of_mem hs
            exact hP.out j hj (by rw [← Hm.out] at hj; omega)

set_option maxRecDepth 100000 in
set_option maxHeartbeats 2000000 in
/-- zzCloneStrings of a slice that is not nil. -/
theorem cloneS_c {w : World} {b o cap : Nat} {D : List ByteArray} (hc : ∀ j (h : j < D.length), w.cell? ⟨b, o + j, none⟩ = some (.string D[j])) (hb : D ≠ [] → b < w.heap.size) (hl : D.length ≤ 1048576) :
    Calls Tryz.prog 10 #[.slice (some ⟨b, o, none⟩) D.length cap] w fun e w' => e = .returned (.slice (some ⟨w.heap.size, 0, none⟩) D.length D.length) ∧ Blk w' w.heap.size 9 (D.map Value.string).toArray ∧ Kp (fun _ => False) w w' := by
  have Hc := hide hc
  have Hb := hide hb
  obtain ⟨i5, hi, hz0, hz1, hz2⟩ := info_parts Tryz.info9
  obtain ⟨m, hm⟩ : ∃ m, m = D.length := ⟨_, rfl⟩
  rw [← hm] at hl ⊢
  obtain ⟨wm, hmk, hmo, hmg⟩ := run_make_full (P := Tryz.prog) w 0 23 9 i5 _ 1 Tryz.underlying23 hi hz0 hz1 .i64 .i64 m (by rw [hz2]; omega) (by unfold maxLen; omega) (Nat.zero_le _)
  have hkm : Kp (fun _ => False) w wm := Kp.grown hmg (fun k e => by cases e)
  have hfl : Hid (FV wm w.heap.size 9 (D.map Value.string) 0) := by
    rcases hmo.2 with ⟨e, _⟩ | ⟨g, cap, cur, e, _, hg, _, _, hcs, _⟩
    · cases e
    · cases e
      exact ⟨cur, hg, by rw [List.length_map]; omega, fun j hj => absurd hj (Nat.not_lt_zero _)⟩
  have Hm := hide hm
  have Hkm := hide hkm
  have hl' : (m : Int) ≤ 1048576 := by omega
  clear hc hb hmo hmg hkm hm
  have hnn := nn23 ⟨b, o, none⟩ m cap w
  go_enter Tryz.func10, Tryz.ntmps10
  go_wp2_with fail
  go_loopg [4] m (fun gk s4 wr => ∃ k : Nat, s4 = .int .i64 k ∧ k ≤ m ∧ gk = m - k ∧ Hid (FV wr w.heap.size 9 (D.map Value.string) k ∧ Kp (fun j => j = w.heap.size) wm wr))
  case atStart => exact ⟨0, rfl, Nat.zero_le _, rfl, hfl.out, Kp.refl _ _⟩
  case round =>
    obtain ⟨k, rfl, hk, rfl, hrr⟩ := hrel
    have hkw : Hid (Kp (fun j => j = w.heap.size) w wr) := (Hkm.out.mono (fun _ _ e => e.elim)).trans (hrr.out.2.mono (fun _ _ e => .inl e))
    by_cases hkm : k < m
    · have hkm' : (k : Int) < m := by omega
      have hkD : k < D.length := by rw [← Hm.out]; exact hkm
      have hbl := Hb.out (by intro e; rw [e] at hkD; exact absurd hkD (Nat.not_lt_zero _))
      obtain ⟨c, hcc⟩ : ∃ c, c = D[k] := ⟨_, rfl⟩
      have hgc : wr.cell? ⟨b, o + k, none⟩ = some (.string c) := by
        rw [hkw.out.cell (p := ⟨b, o + k, none⟩) hbl (fun e => by simp at e; omega), Hc.out k hkD, hcc]
      obtain ⟨v, hv⟩ := hrr.out.1.cell (j := k) (by rw [List.length_map]; exact hkD)
      have hvf := hrr.out.1.free k
      have Hcc := hide hcc
      have HkD := hide hkD
      clear hcc
      go_wp2
      go_roundg (m - (k + 1))
      case measure => omega
      case rel =>
        refine ⟨k + 1, by go_num, by omega, rfl, ?_, ?_⟩
        · refine hrr.out.1.store (by rw [List.length_map]; exact hkD) (v := .string c) ?_ _ rfl
          rw [List.getElem?_map, List.getElem?_eq_getElem hkD, Hcc.out]; rfl
        · exact hrr.out.2.setCell (p := ⟨w.heap.size, k, none⟩) (.inl rfl) _
    · have hkm' : ¬ (k : Int) < m := by omega
      obtain rfl : k = m := by omega
      go_wp2
      go_ret
      refine ⟨rfl, ?_, hkw.out.mono (fun k hk e => by omega)⟩
      have h5 := hrr.out.1
      rw [Hm.out, ← List.length_map (f := Value.string)] at h5
      exact h5.full
end Go.Proofs.Qxb6615582aGreatFmt
