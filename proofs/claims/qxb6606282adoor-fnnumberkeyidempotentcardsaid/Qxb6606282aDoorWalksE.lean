import Derived.Test.Qxb6606282aDoorWalksA
import Derived.Deep.DeepCutAuto
namespace Go.Proofs.Qxb6606282aDoor
open Go.RowKit

theorem drop_at (s : ByteArray) (k : Nat) (h : k < s.size) : s.data.toList.drop k = s[k] :: s.data.toList.drop (k + 1) := by
  rw [List.drop_eq_getElem_cons (by simpa using h)]; rfl
theorem drop_end (s : ByteArray) (k : Nat) (h : s.size ≤ k) : s.data.toList.drop k = [] := List.drop_of_length_le (by simpa using h)

set_option maxHeartbeats 400000 in
theorem digit_yes (c : Int) (h1 : 48 ≤ c) (h2 : c ≤ 57) (w : World) :
    Calls Tryd.prog 16 #[.int .u8 c] w fun e w' => e = .returned (.bool true) ∧ w' = w := by
  go_enter Tryd.func16, Tryd.ntmps16
  go_wp2
  go_ret
  exact ⟨rfl, rfl⟩
set_option maxHeartbeats 400000 in
theorem digit_low (c : Int) (h1 : ¬ 48 ≤ c) (w : World) :
    Calls Tryd.prog 16 #[.int .u8 c] w fun e w' => e = .returned (.bool false) ∧ w' = w := by
  go_enter Tryd.func16, Tryd.ntmps16
  go_wp2
  go_ret
  exact ⟨rfl, rfl⟩
set_option maxHeartbeats 400000 in
theorem digit_high (c : Int) (h1 : 48 ≤ c) (h2 : ¬ c ≤ 57) (w : World) :
    Calls Tryd.prog 16 #[.int .u8 c] w fun e w' => e = .returned (.bool false) ∧ w' = w := by
  go_enter Tryd.func16, Tryd.ntmps16
  go_wp2
  go_ret
  exact ⟨rfl, rfl⟩
theorem digit_no (c : UInt8) (h : dgB c = false) (w : World) :
    Calls Tryd.prog 16 #[.int .u8 (c.toNat : Int)] w fun e w' => e = .returned (.bool false) ∧ w' = w := by
  have h' : ¬ (48 ≤ c.toNat ∧ c.toNat ≤ 57) := of_decide_eq_false h
  by_cases h1 : 48 ≤ c.toNat
  · exact digit_high _ (by omega) (by omega) w
  · exact digit_low _ (by omega) w
theorem digit_ok (c : UInt8) (h : dgB c = true) (w : World) :
    Calls Tryd.prog 16 #[.int .u8 (c.toNat : Int)] w fun e w' => e = .returned (.bool true) ∧ w' = w := by
  have h' : (48 ≤ c.toNat ∧ c.toNat ≤ 57) := of_decide_eq_true h
  exact digit_yes _ (by omega) (by omega) w
theorem dd_yes {c : UInt8} {r : List UInt8} (h : dgB c = true) : dd (c :: r) = dd r := by unfold dd; rw [List.dropWhile_cons, if_pos h]
theorem dd_no {c : UInt8} {r : List UInt8} (h : dgB c = false) : dd (c :: r) = c :: r := by unfold dd; rw [List.dropWhile_cons, if_neg (by simp [h])]

theorem end_is (s : ByteArray) (j : Nat) (h : j ≤ s.size) : ((j : Int) == (s.size : Int)) = (s.data.toList.drop j).isEmpty := by
  by_cases h1 : j = s.size
  · rw [drop_end s j (by omega)]; simp [h1]
  · rw [drop_at s j (by omega)]; simp; omega

set_option maxRecDepth 100000 in
set_option maxHeartbeats 1000000 in
theorem isJSON_c (s : ByteArray) (hs : s.size ≤ 4294967296) (w : World) :
    Calls Tryd.prog 7 #[.string s] w fun e w' => e = .returned (.bool (jsonB s.data.toList)) ∧ w' = w := by
  obtain ⟨R, hR⟩ : ∃ R, jsonB s.data.toList = R := ⟨_, rfl⟩
  rw [hR]
  have HR := hide hR
  clear hR
  go_enter Tryd.func7, Tryd.ntmps7
  go_upto_region 3 with fail
  go_cut [17] (fun s17 wx => wx = w ∧ ∃ (B : Bool) (k : Nat), s17 = .bool B ∧ (k = if B then 1 else 0) ∧ k ≤ s.size ∧ Hid (js1 (s.data.toList.drop k) = R))
  case first =>
    by_cases h0 : 0 < s.size
    · have h0' : (0 : Int) < s.size := by omega
      have hd := drop_at s 0 h0
      rw [List.drop_zero] at hd
      by_cases h45 : s[0].toNat = 45
      · have h45' : ((s[0].toNat : Int) == 45) = true := by simp [h45]
        have hr : Hid (js1 (s.data.toList.drop 1) = R) := by
          rw [← HR.out, hd, jsonB, if_pos h45]; exact rfl
        clear hd h45
        go_wp2
        go_meet
        exact ⟨rfl, true, 1, rfl, rfl, h0, hr⟩
      · have h45' : ((s[0].toNat : Int) == 45) = false := by simp; omega
        have hr : Hid (js1 (s.data.toList.drop 0) = R) := by
          rw [← HR.out, List.drop_zero, hd, jsonB, if_neg h45]; exact rfl
        clear hd h45
        go_wp2
        go_meet
        exact ⟨rfl, false, 0, rfl, rfl, Nat.zero_le _, hr⟩
    · have h0' : ¬ (0 : Int) < s.size := by omega
      have hr : Hid (js1 (s.data.toList.drop 0) = R) := by
          rw [← HR.out, List.drop_zero]
          have := drop_end s 0 (by omega)
          rw [List.drop_zero] at this
          rw [this]; exact rfl
      go_wp2
      go_meet
      exact ⟨rfl, false, 0, rfl, rfl, Nat.zero_le _, hr⟩
  case rest =>
    obtain ⟨hw, B, k, rfl, hk, hks, hr⟩ := hcut
    obtain rfl := hw
    go_upto_if 17 with fail
    go_cut [4] (fun s4 wx => wx = wc ∧ ∃ (k : Nat), s4 = .int .i64 k ∧ k ≤ s.size ∧ Hid (js1 (s.data.toList.drop k) = R))
    case first =>
      cases B
      · go_wp2
        go_meet
        exact ⟨rfl, k, by subst hk; rfl, hks, hr⟩
      · go_wp2
        go_meet
        exact ⟨rfl, k, by subst hk; rfl, hks, hr⟩
    case rest =>
      clear hr hks hk
      obtain ⟨hw, k, rfl, hks, hr⟩ := hcut
      obtain rfl := hw
      clear HR
      by_cases hlt : k < s.size
      · have hlt' : ¬ (s.size : Int) ≤ k := by omega
        have hk1 : k + 1 ≤ 4294967297 := by omega
        have hd := hide (drop_at s k hlt)
        go_upto_if 26 with fail
        go_cut [4] (fun s4 wx => wx = wc ∧ ∃ (q : Nat), s4 = .int .i64 q ∧ q ≤ s.size ∧ Hid (js2 (s.data.toList.drop q) = R))
        case first =>
          by_cases h48 : s[k].toNat = 48
          · have h48' : ((s[k].toNat : Int) == 48) = true := by simp [h48]
            have hn : Hid (js2 (s.data.toList.drop (k + 1)) = R) := by
              rw [← hr.out, hd.out, js1, if_pos h48]; exact rfl
            clear h48
            go_wp2
            go_meet
            exact ⟨rfl, k + 1, by go_num, by omega, hn⟩
          · have h48' : ((s[k].toNat : Int) == 48) = false := by simp; omega
            by_cases h49 : 49 ≤ s[k].toNat
            · have h49' : (49 : Int) ≤ s[k].toNat := by omega
              by_cases h57 : s[k].toNat ≤ 57
              · have h57' : (s[k].toNat : Int) ≤ 57 := by omega
                have hn : Hid (js2 (dd (s.data.toList.drop k)) = R) := by
                  rw [← hr.out, hd.out, js1, if_neg h48, if_pos ⟨h49, h57⟩]; exact rfl
                clear h48 h49 h57
                go_wp2_with fail
                go_loop [4] (fun v => ∃ q : Nat, v = .int .i64 q ∧ q ≤ s.size ∧ k ≤ q ∧ Hid (dd (s.data.toList.drop q) = dd (s.data.toList.drop k))) (fun v => s.size - (intOf v).toNat)
                case atStart => exact ⟨k, rfl, by omega, Nat.le_refl _, rfl⟩
                case round =>
                  obtain ⟨j, rfl, hj, hstj, hjd⟩ := hrel
                  by_cases hjn : j < s.size
                  · have hjn' : (j : Int) < s.size := by omega
                    have hjx : j + 1 ≤ 4294967297 := by omega
                    have hdj := hide (drop_at s j hjn)
                    cases hdg : dgB s[j] with
                    | true =>
                      have hnx : Hid (dd (s.data.toList.drop (j + 1)) = dd (s.data.toList.drop k)) := by
                        rw [← hjd.out, hdj.out, dd_yes hdg]; exact rfl
                      go_wp2_with fail
                      refine (digit_ok s[j] hdg _).mono ?_
                      rintro e w' ⟨rfl, hw⟩
                      subst hw
                      clear hdg
                      go_wp2_with fail
                      go_round
                      case rel => exact ⟨j + 1, by go_num, by omega, by omega, hnx⟩
                      case measure => simp [intOf]; omega
                    | false =>
                      have hnx : Hid (s.data.toList.drop j = dd (s.data.toList.drop k)) := by
                        rw [← hjd.out, hdj.out, dd_no hdg]; exact rfl
                      go_wp2_with fail
                      refine (digit_no s[j] hdg _).mono ?_
                      rintro e w' ⟨rfl, hw⟩
                      subst hw
                      clear hdg hdj
                      go_wp2_with fail
                      go_meet
                      exact ⟨rfl, j, rfl, by omega, by rw [← hn.out, ← hnx.out]; exact rfl⟩
                  · have hjn' : ¬ (j : Int) < s.size := by omega
                    have hnx : Hid (s.data.toList.drop j = dd (s.data.toList.drop k)) := by
                      rw [← hjd.out, drop_end s j (by omega)]; exact rfl
                    go_wp2_with fail
                    go_meet
                    exact ⟨rfl, j, rfl, by omega, by rw [← hn.out, ← hnx.out]; exact rfl⟩
              · have h57' : ¬ (s[k].toNat : Int) ≤ 57 := by omega
                have hn : Hid (R = false) := by
                  rw [← hr.out, hd.out, js1, if_neg h48, if_neg (by omega)]; exact rfl
                clear h48 h49 h57
                go_wp2
                go_ret
                exact ⟨ret_bool hn.out.symm, rfl⟩
            · have h49' : ¬ (49 : Int) ≤ s[k].toNat := by omega
              have hn : Hid (R = false) := by
                rw [← hr.out, hd.out, js1, if_neg h48, if_neg (by omega)]; exact rfl
              clear h48 h49
              go_wp2
              go_ret
              exact ⟨ret_bool hn.out.symm, rfl⟩
        case rest =>
          clear hr hks hd hlt hlt' hk1
          obtain ⟨hw, k, rfl, hks, hr⟩ := hcut
          obtain rfl := hw
          have hk1 : k + 1 ≤ 4294967297 := by omega
          go_upto_region 13 with fail
          go_cut [58] (fun s58 wx => wx = wc ∧ ∃ (B : Bool), s58 = .bool B ∧ Hid (B = true → k < s.size ∧ (decide ((dd (s.data.toList.drop (k + 1))).length < (s.data.toList.drop (k + 1)).length) && js3 (dd (s.data.toList.drop (k + 1)))) = R) ∧ Hid (B = false → js3 (s.data.toList.drop k) = R))
          case first =>
            by_cases hlt : k < s.size
            · have hlt' : (k : Int) < s.size := by omega
              have hd := drop_at s k hlt
              by_cases h46 : s[k].toNat = 46
              · have h46' : ((s[k].toNat : Int) == 46) = true := by simp [h46]
                have hn : Hid ((decide ((dd (s.data.toList.drop (k + 1))).length < (s.data.toList.drop (k + 1)).length) && js3 (dd (s.data.toList.drop (k + 1)))) = R) := by
                  rw [← hr.out, hd, js2, if_pos h46]; exact rfl
                clear hd h46
                go_wp2
                go_meet
                exact ⟨rfl, true, rfl, fun _ => ⟨hlt, hn.out⟩, (fun h => by cases h)⟩
              · have h46' : ((s[k].toNat : Int) == 46) = false := by simp; omega
                have hn : Hid (js3 (s.data.toList.drop k) = R) := by
                  rw [← hr.out, hd, js2, if_neg h46]; exact rfl
                clear hd h46
                go_wp2
                go_meet
                exact ⟨rfl, false, rfl, (fun h => by cases h), fun _ => hn.out⟩
            · have hlt' : ¬ (k : Int) < s.size := by omega
              have hn : Hid (js3 (s.data.toList.drop k) = R) := by
                rw [← hr.out, drop_end s k (by omega)]; exact rfl
              go_wp2
              go_meet
              exact ⟨rfl, false, rfl, (fun h => by cases h), fun _ => hn.out⟩
          case rest =>
            clear hr
            obtain ⟨hw, B, rfl, hT, hF⟩ := hcut
            obtain rfl := hw
            go_upto_if 58 with fail
            go_cut [4] (fun s4 wx => wx = wc ∧ ∃ (q : Nat), s4 = .int .i64 q ∧ q ≤ s.size ∧ Hid (js3 (s.data.toList.drop q) = R))
            case first =>
              cases B
              · go_wp2
                go_meet
                exact ⟨rfl, k, rfl, hks, (by first | exact hF.out rfl | exact hF.out trivial)⟩
              · obtain ⟨hlt, hn⟩ := (show _ ∧ _ by first | exact hT.out rfl | exact hT.out trivial)
                have hlt' : (k : Int) < s.size := by omega
                have Hn := hide hn
                clear hn hF hT
                go_wp2_with fail
                go_loop [4] (fun v => ∃ q : Nat, v = .int .i64 q ∧ q ≤ s.size ∧ (k + 1) ≤ q ∧ Hid (dd (s.data.toList.drop q) = dd (s.data.toList.drop (k + 1)))) (fun v => s.size - (intOf v).toNat)
                case atStart => exact ⟨(k + 1), by go_num, by omega, Nat.le_refl _, rfl⟩
                case round =>
                  obtain ⟨j, rfl, hj, hstj, hjd⟩ := hrel
                  by_cases hjn : j < s.size
                  · have hjn' : (j : Int) < s.size := by omega
                    have hjx : j + 1 ≤ 4294967297 := by omega
                    have hdj := hide (drop_at s j hjn)
                    cases hdg : dgB s[j] with
                    | true =>
                      have hnx : Hid (dd (s.data.toList.drop (j + 1)) = dd (s.data.toList.drop (k + 1))) := by
                        rw [← hjd.out, hdj.out, dd_yes hdg]; exact rfl
                      go_wp2_with fail
                      refine (digit_ok s[j] hdg _).mono ?_
                      rintro e w' ⟨rfl, hw⟩
                      subst hw
                      clear hdg
                      go_wp2_with fail
                      go_round
                      case rel => exact ⟨j + 1, by go_num, by omega, by omega, hnx⟩
                      case measure => simp [intOf]; omega
                    | false =>
                      have hnx : Hid (s.data.toList.drop j = dd (s.data.toList.drop (k + 1))) := by
                        rw [← hjd.out, hdj.out, dd_no hdg]; exact rfl
                      go_wp2_with fail
                      refine (digit_no s[j] hdg _).mono ?_
                      rintro e w' ⟨rfl, hw⟩
                      subst hw
                      clear hdg hdj
                      by_cases hjs : j = k + 1
                      · have hjs' : ((j : Int) == (k : Int) + 1) = true := by simp; omega
                        have hf : Hid (R = false) := by
                          rw [← Hn.out, ← hnx.out, hjs]; simp [Hid]
                        clear hjs
                        go_wp2_with fail
                        go_ret
                        exact ⟨ret_bool hf.out.symm, rfl⟩
                      · have hjs' : ((j : Int) == (k : Int) + 1) = false := by simp; omega
                        have hf : Hid (js3 (s.data.toList.drop j) = R) := by
                          rw [← Hn.out, ← hnx.out, decide_eq_true (by simp only [List.length_drop, len_data]; omega), Bool.true_and]; exact rfl
                        go_wp2_with fail
                        go_meet
                        exact ⟨rfl, j, rfl, by omega, hf⟩
                  · have hjn' : ¬ (j : Int) < s.size := by omega
                    have hnx : Hid (s.data.toList.drop j = dd (s.data.toList.drop (k + 1))) := by
                      rw [← hjd.out, drop_end s j (by omega)]; exact rfl
                    by_cases hjs : j = k + 1
                    · have hjs' : ((j : Int) == (k : Int) + 1) = true := by simp; omega
                      have hf : Hid (R = false) := by
                        rw [← Hn.out, ← hnx.out, hjs]; simp [Hid]
                      clear hjs
                      go_wp2_with fail
                      go_ret
                      exact ⟨ret_bool hf.out.symm, rfl⟩
                    · have hjs' : ((j : Int) == (k : Int) + 1) = false := by simp; omega
                      have hf : Hid (js3 (s.data.toList.drop j) = R) := by
                        rw [← Hn.out, ← hnx.out, decide_eq_true (by simp only [List.length_drop, len_data]; omega), Bool.true_and]; exact rfl
                      go_wp2_with fail
                      go_meet
                      exact ⟨rfl, j, rfl, by omega, hf⟩
            case rest =>
              clear hT hF hks hk1
              obtain ⟨hw, k, rfl, hks, hr⟩ := hcut
              obtain rfl := hw
              have hk1 : k + 1 ≤ 4294967297 := by omega
              go_upto_region 20 with fail
              go_cut [90] (fun s90 wx => wx = wc ∧ ∃ (B : Bool), s90 = .bool B ∧ Hid (B = true → k < s.size ∧ js3e (s.data.toList.drop (k + 1)) = R) ∧ Hid (B = false → ((k : Int) == (s.size : Int)) = R))
              case first =>
                by_cases hlt : k < s.size
                · have hlt' : (k : Int) < s.size := by omega
                  have hd := drop_at s k hlt
                  by_cases h1 : s[k].toNat = 101
                  · have h1' : ((s[k].toNat : Int) == 101) = true := by simp [h1]
                    have hn : Hid (js3e (s.data.toList.drop (k + 1)) = R) := by
                      rw [← hr.out, hd, js3, if_pos (.inl h1)]; exact rfl
                    clear hd h1
                    go_wp2
                    go_meet
                    exact ⟨rfl, true, rfl, fun _ => ⟨hlt, hn.out⟩, (fun h => by cases h)⟩
                  · have h1' : ((s[k].toNat : Int) == 101) = false := by simp; omega
                    by_cases h2 : s[k].toNat = 69
                    · have h2' : ((s[k].toNat : Int) == 69) = true := by simp [h2]
                      have hn : Hid (js3e (s.data.toList.drop (k + 1)) = R) := by
                        rw [← hr.out, hd, js3, if_pos (.inr h2)]; exact rfl
                      clear hd h1 h2
                      go_wp2
                      go_meet
                      exact ⟨rfl, true, rfl, fun _ => ⟨hlt, hn.out⟩, (fun h => by cases h)⟩
                    · have h2' : ((s[k].toNat : Int) == 69) = false := by simp; omega
                      have hn : Hid (((k : Int) == (s.size : Int)) = R) := by
                        rw [← hr.out, hd, js3, if_neg (by omega)]
                        show (_ == _) = false
                        simp; omega
                      clear hd h1 h2
                      go_wp2
                      go_meet
                      exact ⟨rfl, false, rfl, (fun h => by cases h), fun _ => hn.out⟩
                · have hlt' : ¬ (k : Int) < s.size := by omega
                  have hn : Hid (((k : Int) == (s.size : Int)) = R) := by
                    rw [← hr.out, drop_end s k (by omega), js3]
                    show (_ == _) = true
                    simp; omega
                  go_wp2
                  go_meet
                  exact ⟨rfl, false, rfl, (fun h => by cases h), fun _ => hn.out⟩
              case rest =>
                clear hr
                obtain ⟨hw, B, rfl, hT, hF⟩ := hcut
                obtain rfl := hw
                go_upto_if 90 with fail
                go_cut [4] (fun s4 wx => wx = wc ∧ ∃ (q : Nat), s4 = .int .i64 q ∧ Hid (((q : Int) == (s.size : Int)) = R))
                case first =>
                  cases B
                  · go_wp2
                    go_meet
                    exact ⟨rfl, k, rfl, (by first | exact hF.out rfl | exact hF.out trivial)⟩
                  · obtain ⟨hlt, hn⟩ := (show _ ∧ _ by first | exact hT.out rfl | exact hT.out trivial)
                    have hlt' : (k : Int) < s.size := by omega
                    have Hn := hide hn
                    clear hn hF hT
                    go_upto_region 21 with fail
                    go_cut [4] (fun s4 wx => wx = wc ∧ ∃ (q : Nat), s4 = .int .i64 q ∧ q ≤ s.size ∧ Hid (js3e (s.data.toList.drop q) = R))
                    case first =>
                      go_wp2
                      go_meet
                      exact ⟨rfl, k + 1, by go_num, by omega, Hn⟩
                    case rest =>
                    clear Hn hlt hlt' hk1 hks
                    obtain ⟨hw, k, rfl, hks, hr⟩ := hcut
                    obtain rfl := hw
                    have hk1 : k + 1 ≤ 4294967297 := by omega
                    go_upto_region 22 with fail
                    go_cut [107] (fun s107 wx => wx = wc ∧ ∃ (B : Bool) (q : Nat), s107 = .bool B ∧ (q = if B then k + 1 else k) ∧ q ≤ s.size ∧ Hid (js4 (s.data.toList.drop q) = R))
                    case first =>
                      by_cases hlt : k < s.size
                      · have hlt' : (k : Int) < s.size := by omega
                        have hd := drop_at s k hlt
                        by_cases h1 : s[k].toNat = 43
                        · have h1' : ((s[k].toNat : Int) == 43) = true := by simp [h1]
                          have hn : Hid (js4 (s.data.toList.drop (k + 1)) = R) := by
                            rw [← hr.out, hd, js3e, if_pos (.inl h1)]; exact rfl
                          clear hd h1
                          go_wp2
                          go_meet
                          exact ⟨rfl, true, k + 1, rfl, rfl, hlt, hn⟩
                        · have h1' : ((s[k].toNat : Int) == 43) = false := by simp; omega
                          by_cases h2 : s[k].toNat = 45
                          · have h2' : ((s[k].toNat : Int) == 45) = true := by simp [h2]
                            have hn : Hid (js4 (s.data.toList.drop (k + 1)) = R) := by
                              rw [← hr.out, hd, js3e, if_pos (.inr h2)]; exact rfl
                            clear hd h1 h2
                            go_wp2
                            go_meet
                            exact ⟨rfl, true, k + 1, rfl, rfl, hlt, hn⟩
                          · have h2' : ((s[k].toNat : Int) == 45) = false := by simp; omega
                            have hn : Hid (js4 (s.data.toList.drop k) = R) := by
                              rw [← hr.out, hd, js3e, if_neg (by omega)]; exact rfl
                            clear hd h1 h2
                            go_wp2
                            go_meet
                            exact ⟨rfl, false, k, rfl, rfl, hks, hn⟩
                      · have hlt' : ¬ (k : Int) < s.size := by omega
                        have hn : Hid (js4 (s.data.toList.drop k) = R) := by
                          rw [← hr.out, drop_end s k (by omega)]; exact rfl
                        go_wp2
                        go_meet
                        exact ⟨rfl, false, k, rfl, rfl, hks, hn⟩
                    case rest =>
                      obtain ⟨hw, B, k2, rfl, hk2', hk2s, hr⟩ := hcut
                      obtain rfl := hw
                      go_upto_if 107 with fail
                      go_cut [4] (fun s4 wx => wx = wc ∧ ∃ (q : Nat), s4 = .int .i64 q ∧ q ≤ s.size ∧ Hid (js4 (s.data.toList.drop q) = R))
                      case first =>
                        cases B
                        · go_wp2
                          go_meet
                          exact ⟨rfl, k2, by subst hk2'; go_num, hk2s, hr⟩
                        · go_wp2
                          go_meet
                          exact ⟨rfl, k2, by subst hk2'; go_num, hk2s, hr⟩
                      case rest =>
                        clear hr hk2' hk2s
                        obtain ⟨hw, k2, rfl, hk2s, hr⟩ := hcut
                        obtain rfl := hw
                        go_wp2_with fail
                        go_loop [4] (fun v => ∃ q : Nat, v = .int .i64 q ∧ q ≤ s.size ∧ k2 ≤ q ∧ Hid (dd (s.data.toList.drop q) = dd (s.data.toList.drop k2))) (fun v => s.size - (intOf v).toNat)
                        case atStart => exact ⟨k2, rfl, by omega, Nat.le_refl _, rfl⟩
                        case round =>
                          obtain ⟨j, rfl, hj, hstj, hjd⟩ := hrel
                          by_cases hjn : j < s.size
                          · have hjn' : (j : Int) < s.size := by omega
                            have hjx : j + 1 ≤ 4294967297 := by omega
                            have hdj := hide (drop_at s j hjn)
                            cases hdg : dgB s[j] with
                            | true =>
                              have hnx : Hid (dd (s.data.toList.drop (j + 1)) = dd (s.data.toList.drop k2)) := by
                                rw [← hjd.out, hdj.out, dd_yes hdg]; exact rfl
                              go_wp2_with fail
                              refine (digit_ok s[j] hdg _).mono ?_
                              rintro e w' ⟨rfl, hw⟩
                              subst hw
                              clear hdg
                              go_wp2_with fail
                              go_round
                              case rel => exact ⟨j + 1, by go_num, by omega, by omega, hnx⟩
                              case measure => simp [intOf]; omega
                            | false =>
                              have hnx : Hid (s.data.toList.drop j = dd (s.data.toList.drop k2)) := by
                                rw [← hjd.out, hdj.out, dd_no hdg]; exact rfl
                              go_wp2_with fail
                              refine (digit_no s[j] hdg _).mono ?_
                              rintro e w' ⟨rfl, hw⟩
                              subst hw
                              clear hdg hdj
                              by_cases hjs : j = k2
                              · have hjs' : ((j : Int) == (k2 : Int)) = true := by simp; omega
                                have hf : Hid (R = false) := by
                                  rw [← hr.out, js4, ← hnx.out, hjs]; simp [Hid]
                                clear hjs
                                go_wp2_with fail
                                go_ret
                                exact ⟨ret_bool hf.out.symm, rfl⟩
                              · have hjs' : ((j : Int) == (k2 : Int)) = false := by simp; omega
                                have hf : Hid (((j : Int) == (s.size : Int)) = R) := by
                                  rw [← hr.out, js4, ← hnx.out, decide_eq_true (by simp only [List.length_drop, len_data]; omega), Bool.true_and]
                                  exact end_is s j (by omega)
                                go_wp2_with fail
                                go_meet
                                exact ⟨rfl, j, rfl, hf⟩
                          · have hjn' : ¬ (j : Int) < s.size := by omega
                            have hnx : Hid (s.data.toList.drop j = dd (s.data.toList.drop k2)) := by
                              rw [← hjd.out, drop_end s j (by omega)]; exact rfl
                            by_cases hjs : j = k2
                            · have hjs' : ((j : Int) == (k2 : Int)) = true := by simp; omega
                              have hf : Hid (R = false) := by
                                rw [← hr.out, js4, ← hnx.out, hjs]; simp [Hid]
                              clear hjs
                              go_wp2_with fail
                              go_ret
                              exact ⟨ret_bool hf.out.symm, rfl⟩
                            · have hjs' : ((j : Int) == (k2 : Int)) = false := by simp; omega
                              have hf : Hid (((j : Int) == (s.size : Int)) = R) := by
                                rw [← hr.out, js4, ← hnx.out, decide_eq_true (by simp only [List.length_drop, len_data]; omega), Bool.true_and]
                                exact end_is s j (by omega)
                              go_wp2_with fail
                              go_meet
                              exact ⟨rfl, j, rfl, hf⟩
                case rest =>
                  obtain ⟨hw, q, rfl, hq⟩ := hcut
                  obtain rfl := hw
                  go_wp2
                  go_ret
                  exact ⟨ret_bool hq.out, rfl⟩
      · have hlt' : (s.size : Int) ≤ k := by omega
        have hn : Hid (R = false) := by
          rw [← hr.out, drop_end s k (by omega)]; exact rfl
        go_wp2
        go_ret
        exact ⟨ret_bool hn.out.symm, rfl⟩
end Go.Proofs.Qxb6606282aDoor
