import Derived.Test.Qxb6615582aGreatFmtVp
import Derived.Test.Qxb6615582aGreatFmtBase
import Derived.Deep.LoopGhost
namespace Go.Proofs.Qxb6615582aGreatFmt
open Go.RowKit

section
variable {l : Bs} {c n lo hi : Nat}
theorem vs_short (h0 : bt l 0 = c) (hc : 128 ≤ c) (hv : vhead c = (n, lo, hi)) (h : l.length < n) : vstep l = 0 := by
  unfold vstep
  rw [h0, hv, if_neg (by omega), if_pos (.inr (.inl h))]
theorem vs_none (h0 : bt l 0 = c) (hc : 128 ≤ c) (hv : vhead c = (0, 0, 0)) : vstep l = 0 := by
  unfold vstep
  rw [h0, hv, if_neg (by omega), if_pos (.inl rfl)]
theorem vs_lo (h0 : bt l 0 = c) (hc : 128 ≤ c) (hv : vhead c = (n, lo, hi)) (h : bt l 1 < lo) : vstep l = 0 := by
  unfold vstep
  rw [h0, hv, if_neg (by omega), if_pos (.inr (.inr (.inl h)))]
theorem vs_hi (h0 : bt l 0 = c) (hc : 128 ≤ c) (hv : vhead c = (n, lo, hi)) (h : hi < bt l 1) : vstep l = 0 := by
  unfold vstep
  rw [h0, hv, if_neg (by omega), if_pos (.inr (.inr (.inr (.inl h))))]
theorem vs_mid {j : Nat} (h0 : bt l 0 = c) (hc : 128 ≤ c) (hv : vhead c = (n, lo, hi)) (hn : n ≤ 4) (h2 : 2 ≤ j) (hj : j < n) (h : bt l j < 128 ∨ 191 < bt l j) : vstep l = 0 := by
  unfold vstep
  rw [h0, hv, if_neg (by omega)]
  rcases (by omega : j = 2 ∨ j = 3) with rfl | rfl
  · rw [if_pos (.inr (.inr (.inr (.inr (.inl ⟨by omega, h⟩)))))]
  · rw [if_pos (.inr (.inr (.inr (.inr (.inr ⟨by omega, h⟩)))))]
theorem vs_ok (h0 : bt l 0 = c) (hc : 128 ≤ c) (hv : vhead c = (n, lo, hi)) (hl : n ≤ l.length) (h1 : lo ≤ bt l 1) (h2 : bt l 1 ≤ hi) (hn : 2 ≤ n) (hn4 : n ≤ 4) (h : ∀ j, 2 ≤ j → j < n → 128 ≤ bt l j ∧ bt l j ≤ 191) : vstep l = n := by
  unfold vstep
  rw [h0, hv, if_neg (by omega), if_neg]
  rintro (e | e | e | e | ⟨e1, e2⟩ | ⟨e1, e2⟩)
  · simp only at e; omega
  · simp only at e; omega
  · simp only at e; omega
  · simp only at e; omega
  · have := h 2 (by omega) (by simp only at e1; omega); omega
  · have := h 3 (by omega) (by simp only at e1; omega); omega
theorem vs_one (h : bt l 0 < 128) : vstep l = 1 := by
  unfold vstep
  rw [if_pos h]
end
theorem bt_s (s : ByteArray) (i k : Nat) (h : i + k < s.size) : bt (s.data.toList.drop i) k = s[i + k].toNat := by
  rw [bt_drop]
  unfold bt
  have h' : i + k < s.data.toList.length := by simpa using h
  rw [List.getD, List.getElem?_eq_getElem h']
  rfl
set_option maxRecDepth 100000 in
set_option maxHeartbeats 8000000 in
/-- zzValidUTF8. -/
theorem zvalid_c (w : World) (s : ByteArray) (hs : s.size ≤ 4000000) : Calls Tryz.prog 33 #[.string s] w fun e w' => e = .returned (.bool (Lib.validD s.data.toList)) ∧ w' = w := by
  obtain ⟨V, hV⟩ : ∃ V, Lib.validD s.data.toList = V := ⟨_, rfl⟩
  rw [hV]
  have HV := hide hV
  have hs' : (s.size : Int) ≤ 4000000 := by omega
  have Hlen : Hid (s.data.toList.length = s.size) := by show s.data.toList.length = s.size; simp
  clear hV
  go_enter Tryz.func33, Tryz.ntmps33
  go_wp2_with fail
  go_loopg [3] (s.size - 0) (fun gk s3 wr => ∃ i : Nat, s3 = .int .i64 i ∧ i ≤ s.size ∧ gk = s.size - i ∧ w = wr ∧ Hid (Lib.validD (s.data.toList.drop i) = V))
  case atStart => exact ⟨0, rfl, Nat.zero_le _, rfl, rfl, HV.out⟩
  case round =>
    obtain ⟨i, rfl, hi, rfl, rfl, hR⟩ := hrel
    by_cases him : i < s.size
    · have him' : (i : Int) < s.size := by omega
      have Hne : Hid (s.data.toList.drop i ≠ []) := by
        intro e
        have := congrArg List.length e
        have h2 := Hlen.out
        rw [List.length_drop] at this
        simp only [List.length_nil] at this
        omega
      have Hb0 : Hid (bt (s.data.toList.drop i) 0 = s[i].toNat) := bt_s s i 0 him
      have hbl : s[i].toNat < 256 := s[i].toNat_lt
      have hi4 : (i : Int) ≤ 4000000 := by omega
      by_cases h128 : s[i].toNat < 128
      · have h128' : (s[i].toNat : Int) < 128 := by omega
        go_wp2_with fail
        go_roundg (s.size - (i + 1))
        case measure => omega
        case rel => exact ⟨i + 1, by go_num, by omega, rfl, rfl, hide (by rw [← hR.out, validD_step _ Hne.out, vs_one (by rw [Hb0.out]; exact h128), if_neg (by decide), List.drop_drop])⟩
      · have hc : 128 ≤ s[i].toNat := by omega
        have h128' : ¬ ((s[i].toNat : Int) < 128) := by omega
        by_cases hcl : 194 ≤ s[i].toNat ∧ s[i].toNat ≤ 223
        · have hv : vhead s[i].toNat = (2, 128, 191) := by unfold vhead; repeat (first | rw [if_pos (by omega)] | rw [if_neg (by omega)])
          have Hv := hide hv
          have f194 : (194 : Int) ≤ s[i].toNat := by omega
          have f223 : (s[i].toNat : Int) ≤ 223 := by omega
          clear hv hcl
          by_cases hln : i + 2 ≤ s.size
          · have hlt : ¬ ((s.size : Int) - i < 2) := by omega
            have hlt2 : (i : Int) + 1 < s.size := by omega
            have h1s : i + 1 < s.size := by omega
            have Hb1 := hide (bt_s s i 1 h1s)
            by_cases h1 : s[i + 1].toNat < 128
            · have h1' : (s[i + 1].toNat : Int) < 128 := by omega
              go_wp2
              go_ret
              refine ⟨?_, rfl⟩
              rw [← hR.out, validD_step _ Hne.out, if_pos (vs_lo Hb0.out hc Hv.out (by rw [Hb1.out]; exact h1))]
              rfl
            · have h1' : ¬ ((s[i + 1].toNat : Int) < 128) := by omega
              by_cases h2 : 191 < s[i + 1].toNat
              · have h2' : (191 : Int) < s[i + 1].toNat := by omega
                go_wp2
                go_ret
                refine ⟨?_, rfl⟩
                rw [← hR.out, validD_step _ Hne.out, if_pos (vs_hi Hb0.out hc Hv.out (by rw [Hb1.out]; exact h2))]
                rfl
              · have h2' : ¬ ((191 : Int) < s[i + 1].toNat) := by omega
                have Hlo : Hid (128 ≤ bt (s.data.toList.drop i) 1 ∧ bt (s.data.toList.drop i) 1 ≤ 191) := by rw [Hb1.out]; exact ⟨by omega, by omega⟩
                go_wp2_with fail
                go_loopg [8] (2 - 2) (fun gk s8 wq => ∃ k : Nat, s8 = .int .i64 k ∧ 2 ≤ k ∧ k ≤ 2 ∧ gk = 2 - k ∧ w = wq ∧ Hid (∀ j, 2 ≤ j → j < k → 128 ≤ bt (s.data.toList.drop i) j ∧ bt (s.data.toList.drop i) j ≤ 191))
                case atStart => exact ⟨2, rfl, by omega, by omega, rfl, rfl, fun j h1 h2 => by omega⟩
                case round =>
                  obtain ⟨k, rfl, hk2, hkn, rfl, rfl, hQ⟩ := hrel
                  by_cases hkl : k < 2
                  · have hkl' : (k : Int) < 2 := by omega
                    have hix : (i : Int) + k < s.size := by omega
                    have hix0 : (0 : Int) ≤ (i : Int) + k := by omega
                    have hik : i + k < s.size := by omega
                    have Hbk := hide (bt_s s i k hik)
                    have hi4 : (i : Int) ≤ 4000000 := by omega
                    by_cases g1 : s[i + k].toNat < 128
                    · have g1' : (s[i + k].toNat : Int) < 128 := by omega
                      go_wp2
                      go_ret
                      refine ⟨?_, rfl⟩
                      rw [← hR.out, validD_step _ Hne.out, if_pos (vs_mid Hb0.out hc Hv.out (by decide) hk2 hkl (by rw [Hbk.out]; exact .inl g1))]
                      rfl
                    · have g1' : ¬ ((s[i + k].toNat : Int) < 128) := by omega
                      by_cases g2 : 191 < s[i + k].toNat
                      · have g2' : (191 : Int) < s[i + k].toNat := by omega
                        go_wp2
                        go_ret
                        refine ⟨?_, rfl⟩
                        rw [← hR.out, validD_step _ Hne.out, if_pos (vs_mid Hb0.out hc Hv.out (by decide) hk2 hkl (by rw [Hbk.out]; exact .inr g2))]
                        rfl
                      · have g2' : ¬ ((191 : Int) < s[i + k].toNat) := by omega
                        go_wp2_with fail
                        go_roundg (2 - (k + 1))
                        case measure => omega
                        case rel =>
                          refine ⟨k + 1, by go_num, by omega, by omega, rfl, rfl, fun j a1 a2 => ?_⟩
                          by_cases hjk : j = k
                          · subst hjk; rw [Hbk.out]; exact ⟨by omega, by omega⟩
                          · exact hQ.out j a1 (by omega)
                  · obtain rfl : k = 2 := by omega
                    have hi4 : (i : Int) ≤ 4000000 := by omega
                    go_wp2_with fail
                    go_roundg (s.size - (i + 2))
                    case measure => omega
                    case rel => exact ⟨i + 2, by go_num, by omega, rfl, rfl, hide (by rw [← hR.out, validD_step _ Hne.out, vs_ok Hb0.out hc Hv.out (by rw [List.length_drop]; have := Hlen.out; omega) Hlo.out.1 Hlo.out.2 (by decide) (by decide) hQ.out, if_neg (by decide), List.drop_drop])⟩
          · have hlt : (s.size : Int) - i < 2 := by omega
            go_wp2
            go_ret
            refine ⟨?_, rfl⟩
            rw [← hR.out, validD_step _ Hne.out, if_pos (vs_short Hb0.out hc Hv.out (by rw [List.length_drop]; have := Hlen.out; omega))]
            rfl
        · have hnA := hcl
          clear hcl
          by_cases hcl : s[i].toNat = 224
          · have hv : vhead s[i].toNat = (3, 160, 191) := by unfold vhead; repeat (first | rw [if_pos (by omega)] | rw [if_neg (by omega)])
            have Hv := hide hv
            have f194 : (194 : Int) ≤ s[i].toNat := by omega
            have f223 : ¬ ((s[i].toNat : Int) ≤ 223) := by omega
            have f224 : ((s[i].toNat : Int) == 224) = true := by rw [beq_iff_eq]; omega
            clear hv hcl
            by_cases hln : i + 3 ≤ s.size
            · have hlt : ¬ ((s.size : Int) - i < 3) := by omega
              have hlt2 : (i : Int) + 1 < s.size := by omega
              have h1s : i + 1 < s.size := by omega
              have Hb1 := hide (bt_s s i 1 h1s)
              by_cases h1 : s[i + 1].toNat < 160
              · have h1' : (s[i + 1].toNat : Int) < 160 := by omega
                go_wp2
                go_ret
                refine ⟨?_, rfl⟩
                rw [← hR.out, validD_step _ Hne.out, if_pos (vs_lo Hb0.out hc Hv.out (by rw [Hb1.out]; exact h1))]
                rfl
              · have h1' : ¬ ((s[i + 1].toNat : Int) < 160) := by omega
                by_cases h2 : 191 < s[i + 1].toNat
                · have h2' : (191 : Int) < s[i + 1].toNat := by omega
                  go_wp2
                  go_ret
                  refine ⟨?_, rfl⟩
                  rw [← hR.out, validD_step _ Hne.out, if_pos (vs_hi Hb0.out hc Hv.out (by rw [Hb1.out]; exact h2))]
                  rfl
                · have h2' : ¬ ((191 : Int) < s[i + 1].toNat) := by omega
                  have Hlo : Hid (160 ≤ bt (s.data.toList.drop i) 1 ∧ bt (s.data.toList.drop i) 1 ≤ 191) := by rw [Hb1.out]; exact ⟨by omega, by omega⟩
                  go_wp2_with fail
                  go_loopg [8] (3 - 2) (fun gk s8 wq => ∃ k : Nat, s8 = .int .i64 k ∧ 2 ≤ k ∧ k ≤ 3 ∧ gk = 3 - k ∧ w = wq ∧ Hid (∀ j, 2 ≤ j → j < k → 128 ≤ bt (s.data.toList.drop i) j ∧ bt (s.data.toList.drop i) j ≤ 191))
                  case atStart => exact ⟨2, rfl, by omega, by omega, rfl, rfl, fun j h1 h2 => by omega⟩
                  case round =>
                    obtain ⟨k, rfl, hk2, hkn, rfl, rfl, hQ⟩ := hrel
                    by_cases hkl : k < 3
                    · have hkl' : (k : Int) < 3 := by omega
                      have hix : (i : Int) + k < s.size := by omega
                      have hix0 : (0 : Int) ≤ (i : Int) + k := by omega
                      have hik : i + k < s.size := by omega
                      have Hbk := hide (bt_s s i k hik)
                      have hi4 : (i : Int) ≤ 4000000 := by omega
                      by_cases g1 : s[i + k].toNat < 128
                      · have g1' : (s[i + k].toNat : Int) < 128 := by omega
                        go_wp2
                        go_ret
                        refine ⟨?_, rfl⟩
                        rw [← hR.out, validD_step _ Hne.out, if_pos (vs_mid Hb0.out hc Hv.out (by decide) hk2 hkl (by rw [Hbk.out]; exact .inl g1))]
                        rfl
                      · have g1' : ¬ ((s[i + k].toNat : Int) < 128) := by omega
                        by_cases g2 : 191 < s[i + k].toNat
                        · have g2' : (191 : Int) < s[i + k].toNat := by omega
                          go_wp2
                          go_ret
                          refine ⟨?_, rfl⟩
                          rw [← hR.out, validD_step _ Hne.out, if_pos (vs_mid Hb0.out hc Hv.out (by decide) hk2 hkl (by rw [Hbk.out]; exact .inr g2))]
                          rfl
                        · have g2' : ¬ ((191 : Int) < s[i + k].toNat) := by omega
                          go_wp2_with fail
                          go_roundg (3 - (k + 1))
                          case measure => omega
                          case rel =>
                            refine ⟨k + 1, by go_num, by omega, by omega, rfl, rfl, fun j a1 a2 => ?_⟩
                            by_cases hjk : j = k
                            · subst hjk; rw [Hbk.out]; exact ⟨by omega, by omega⟩
                            · exact hQ.out j a1 (by omega)
                    · obtain rfl : k = 3 := by omega
                      have hi4 : (i : Int) ≤ 4000000 := by omega
                      go_wp2_with fail
                      go_roundg (s.size - (i + 3))
                      case measure => omega
                      case rel => exact ⟨i + 3, by go_num, by omega, rfl, rfl, hide (by rw [← hR.out, validD_step _ Hne.out, vs_ok Hb0.out hc Hv.out (by rw [List.length_drop]; have := Hlen.out; omega) Hlo.out.1 Hlo.out.2 (by decide) (by decide) hQ.out, if_neg (by decide), List.drop_drop])⟩
            · have hlt : (s.size : Int) - i < 3 := by omega
              go_wp2
              go_ret
              refine ⟨?_, rfl⟩
              rw [← hR.out, validD_step _ Hne.out, if_pos (vs_short Hb0.out hc Hv.out (by rw [List.length_drop]; have := Hlen.out; omega))]
              rfl
          · have hnB := hcl
            clear hcl
            by_cases hcl : 225 ≤ s[i].toNat ∧ s[i].toNat ≤ 236
            · have hv : vhead s[i].toNat = (3, 128, 191) := by unfold vhead; repeat (first | rw [if_pos (by omega)] | rw [if_neg (by omega)])
              have Hv := hide hv
              have f194 : (194 : Int) ≤ s[i].toNat := by omega
              have f223 : ¬ ((s[i].toNat : Int) ≤ 223) := by omega
              have f224 : ((s[i].toNat : Int) == 224) = false := by rw [beq_eq_false_iff_ne]; omega
              have f225 : (225 : Int) ≤ s[i].toNat := by omega
              have f236 : (s[i].toNat : Int) ≤ 236 := by omega
              clear hv hcl
              by_cases hln : i + 3 ≤ s.size
              · have hlt : ¬ ((s.size : Int) - i < 3) := by omega
                have hlt2 : (i : Int) + 1 < s.size := by omega
                have h1s : i + 1 < s.size := by omega
                have Hb1 := hide (bt_s s i 1 h1s)
                by_cases h1 : s[i + 1].toNat < 128
                · have h1' : (s[i + 1].toNat : Int) < 128 := by omega
                  go_wp2
                  go_ret
                  refine ⟨?_, rfl⟩
                  rw [← hR.out, validD_step _ Hne.out, if_pos (vs_lo Hb0.out hc Hv.out (by rw [Hb1.out]; exact h1))]
                  rfl
                · have h1' : ¬ ((s[i + 1].toNat : Int) < 128) := by omega
                  by_cases h2 : 191 < s[i + 1].toNat
                  · have h2' : (191 : Int) < s[i + 1].toNat := by omega
                    go_wp2
                    go_ret
                    refine ⟨?_, rfl⟩
                    rw [← hR.out, validD_step _ Hne.out, if_pos (vs_hi Hb0.out hc Hv.out (by rw [Hb1.out]; exact h2))]
                    rfl
                  · have h2' : ¬ ((191 : Int) < s[i + 1].toNat) := by omega
                    have Hlo : Hid (128 ≤ bt (s.data.toList.drop i) 1 ∧ bt (s.data.toList.drop i) 1 ≤ 191) := by rw [Hb1.out]; exact ⟨by omega, by omega⟩
                    go_wp2_with fail
                    go_loopg [8] (3 - 2) (fun gk s8 wq => ∃ k : Nat, s8 = .int .i64 k ∧ 2 ≤ k ∧ k ≤ 3 ∧ gk = 3 - k ∧ w = wq ∧ Hid (∀ j, 2 ≤ j → j < k → 128 ≤ bt (s.data.toList.drop i) j ∧ bt (s.data.toList.drop i) j ≤ 191))
                    case atStart => exact ⟨2, rfl, by omega, by omega, rfl, rfl, fun j h1 h2 => by omega⟩
                    case round =>
                      obtain ⟨k, rfl, hk2, hkn, rfl, rfl, hQ⟩ := hrel
                      by_cases hkl : k < 3
                      · have hkl' : (k : Int) < 3 := by omega
                        have hix : (i : Int) + k < s.size := by omega
                        have hix0 : (0 : Int) ≤ (i : Int) + k := by omega
                        have hik : i + k < s.size := by omega
                        have Hbk := hide (bt_s s i k hik)
                        have hi4 : (i : Int) ≤ 4000000 := by omega
                        by_cases g1 : s[i + k].toNat < 128
                        · have g1' : (s[i + k].toNat : Int) < 128 := by omega
                          go_wp2
                          go_ret
                          refine ⟨?_, rfl⟩
                          rw [← hR.out, validD_step _ Hne.out, if_pos (vs_mid Hb0.out hc Hv.out (by decide) hk2 hkl (by rw [Hbk.out]; exact .inl g1))]
                          rfl
                        · have g1' : ¬ ((s[i + k].toNat : Int) < 128) := by omega
                          by_cases g2 : 191 < s[i + k].toNat
                          · have g2' : (191 : Int) < s[i + k].toNat := by omega
                            go_wp2
                            go_ret
                            refine ⟨?_, rfl⟩
                            rw [← hR.out, validD_step _ Hne.out, if_pos (vs_mid Hb0.out hc Hv.out (by decide) hk2 hkl (by rw [Hbk.out]; exact .inr g2))]
                            rfl
                          · have g2' : ¬ ((191 : Int) < s[i + k].toNat) := by omega
                            go_wp2_with fail
                            go_roundg (3 - (k + 1))
                            case measure => omega
                            case rel =>
                              refine ⟨k + 1, by go_num, by omega, by omega, rfl, rfl, fun j a1 a2 => ?_⟩
                              by_cases hjk : j = k
                              · subst hjk; rw [Hbk.out]; exact ⟨by omega, by omega⟩
                              · exact hQ.out j a1 (by omega)
                      · obtain rfl : k = 3 := by omega
                        have hi4 : (i : Int) ≤ 4000000 := by omega
                        go_wp2_with fail
                        go_roundg (s.size - (i + 3))
                        case measure => omega
                        case rel => exact ⟨i + 3, by go_num, by omega, rfl, rfl, hide (by rw [← hR.out, validD_step _ Hne.out, vs_ok Hb0.out hc Hv.out (by rw [List.length_drop]; have := Hlen.out; omega) Hlo.out.1 Hlo.out.2 (by decide) (by decide) hQ.out, if_neg (by decide), List.drop_drop])⟩
              · have hlt : (s.size : Int) - i < 3 := by omega
                go_wp2
                go_ret
                refine ⟨?_, rfl⟩
                rw [← hR.out, validD_step _ Hne.out, if_pos (vs_short Hb0.out hc Hv.out (by rw [List.length_drop]; have := Hlen.out; omega))]
                rfl
            · have hnC := hcl
              clear hcl
              by_cases hcl : s[i].toNat = 237
              · have hv : vhead s[i].toNat = (3, 128, 159) := by unfold vhead; repeat (first | rw [if_pos (by omega)] | rw [if_neg (by omega)])
                have Hv := hide hv
                have f194 : (194 : Int) ≤ s[i].toNat := by omega
                have f223 : ¬ ((s[i].toNat : Int) ≤ 223) := by omega
                have f224 : ((s[i].toNat : Int) == 224) = false := by rw [beq_eq_false_iff_ne]; omega
                have f225 : (225 : Int) ≤ s[i].toNat := by omega
                have f236 : ¬ ((s[i].toNat : Int) ≤ 236) := by omega
                have f237 : ((s[i].toNat : Int) == 237) = true := by rw [beq_iff_eq]; omega
                clear hv hcl
                by_cases hln : i + 3 ≤ s.size
                · have hlt : ¬ ((s.size : Int) - i < 3) := by omega
                  have hlt2 : (i : Int) + 1 < s.size := by omega
                  have h1s : i + 1 < s.size := by omega
                  have Hb1 := hide (bt_s s i 1 h1s)
                  by_cases h1 : s[i + 1].toNat < 128
                  · have h1' : (s[i + 1].toNat : Int) < 128 := by omega
                    go_wp2
                    go_ret
                    refine ⟨?_, rfl⟩
                    rw [← hR.out, validD_step _ Hne.out, if_pos (vs_lo Hb0.out hc Hv.out (by rw [Hb1.out]; exact h1))]
                    rfl
                  · have h1' : ¬ ((s[i + 1].toNat : Int) < 128) := by omega
                    by_cases h2 : 159 < s[i + 1].toNat
                    · have h2' : (159 : Int) < s[i + 1].toNat := by omega
                      go_wp2
                      go_ret
                      refine ⟨?_, rfl⟩
                      rw [← hR.out, validD_step _ Hne.out, if_pos (vs_hi Hb0.out hc Hv.out (by rw [Hb1.out]; exact h2))]
                      rfl
                    · have h2' : ¬ ((159 : Int) < s[i + 1].toNat) := by omega
                      have Hlo : Hid (128 ≤ bt (s.data.toList.drop i) 1 ∧ bt (s.data.toList.drop i) 1 ≤ 159) := by rw [Hb1.out]; exact ⟨by omega, by omega⟩
                      go_wp2_with fail
                      go_loopg [8] (3 - 2) (fun gk s8 wq => ∃ k : Nat, s8 = .int .i64 k ∧ 2 ≤ k ∧ k ≤ 3 ∧ gk = 3 - k ∧ w = wq ∧ Hid (∀ j, 2 ≤ j → j < k → 128 ≤ bt (s.data.toList.drop i) j ∧ bt (s.data.toList.drop i) j ≤ 191))
                      case atStart => exact ⟨2, rfl, by omega, by omega, rfl, rfl, fun j h1 h2 => by omega⟩
                      case round =>
                        obtain ⟨k, rfl, hk2, hkn, rfl, rfl, hQ⟩ := hrel
                        by_cases hkl : k < 3
                        · have hkl' : (k : Int) < 3 := by omega
                          have hix : (i : Int) + k < s.size := by omega
                          have hix0 : (0 : Int) ≤ (i : Int) + k := by omega
                          have hik : i + k < s.size := by omega
                          have Hbk := hide (bt_s s i k hik)
                          have hi4 : (i : Int) ≤ 4000000 := by omega
                          by_cases g1 : s[i + k].toNat < 128
                          · have g1' : (s[i + k].toNat : Int) < 128 := by omega
                            go_wp2
                            go_ret
                            refine ⟨?_, rfl⟩
                            rw [← hR.out, validD_step _ Hne.out, if_pos (vs_mid Hb0.out hc Hv.out (by decide) hk2 hkl (by rw [Hbk.out]; exact .inl g1))]
                            rfl
                          · have g1' : ¬ ((s[i + k].toNat : Int) < 128) := by omega
                            by_cases g2 : 191 < s[i + k].toNat
                            · have g2' : (191 : Int) < s[i + k].toNat := by omega
                              go_wp2
                              go_ret
                              refine ⟨?_, rfl⟩
                              rw [← hR.out, validD_step _ Hne.out, if_pos (vs_mid Hb0.out hc Hv.out (by decide) hk2 hkl (by rw [Hbk.out]; exact .inr g2))]
                              rfl
                            · have g2' : ¬ ((191 : Int) < s[i + k].toNat) := by omega
                              go_wp2_with fail
                              go_roundg (3 - (k + 1))
                              case measure => omega
                              case rel =>
                                refine ⟨k + 1, by go_num, by omega, by omega, rfl, rfl, fun j a1 a2 => ?_⟩
                                by_cases hjk : j = k
                                · subst hjk; rw [Hbk.out]; exact ⟨by omega, by omega⟩
                                · exact hQ.out j a1 (by omega)
                        · obtain rfl : k = 3 := by omega
                          have hi4 : (i : Int) ≤ 4000000 := by omega
                          go_wp2_with fail
                          go_roundg (s.size - (i + 3))
                          case measure => omega
                          case rel => exact ⟨i + 3, by go_num, by omega, rfl, rfl, hide (by rw [← hR.out, validD_step _ Hne.out, vs_ok Hb0.out hc Hv.out (by rw [List.length_drop]; have := Hlen.out; omega) Hlo.out.1 Hlo.out.2 (by decide) (by decide) hQ.out, if_neg (by decide), List.drop_drop])⟩
                · have hlt : (s.size : Int) - i < 3 := by omega
                  go_wp2
                  go_ret
                  refine ⟨?_, rfl⟩
                  rw [← hR.out, validD_step _ Hne.out, if_pos (vs_short Hb0.out hc Hv.out (by rw [List.length_drop]; have := Hlen.out; omega))]
                  rfl
              · have hnD := hcl
                clear hcl
                by_cases hcl : s[i].toNat = 238
                · have hv : vhead s[i].toNat = (3, 128, 191) := by unfold vhead; repeat (first | rw [if_pos (by omega)] | rw [if_neg (by omega)])
                  have Hv := hide hv
                  have f194 : (194 : Int) ≤ s[i].toNat := by omega
                  have f223 : ¬ ((s[i].toNat : Int) ≤ 223) := by omega
                  have f224 : ((s[i].toNat : Int) == 224) = false := by rw [beq_eq_false_iff_ne]; omega
                  have f225 : (225 : Int) ≤ s[i].toNat := by omega
                  have f236 : ¬ ((s[i].toNat : Int) ≤ 236) := by omega
                  have f237 : ((s[i].toNat : Int) == 237) = false := by rw [beq_eq_false_iff_ne]; omega
                  have f238 : ((s[i].toNat : Int) == 238) = true := by rw [beq_iff_eq]; omega
                  clear hv hcl
                  by_cases hln : i + 3 ≤ s.size
                  · have hlt : ¬ ((s.size : Int) - i < 3) := by omega
                    have hlt2 : (i : Int) + 1 < s.size := by omega
                    have h1s : i + 1 < s.size := by omega
                    have Hb1 := hide (bt_s s i 1 h1s)
                    by_cases h1 : s[i + 1].toNat < 128
                    · have h1' : (s[i + 1].toNat : Int) < 128 := by omega
                      go_wp2
                      go_ret
                      refine ⟨?_, rfl⟩
                      rw [← hR.out, validD_step _ Hne.out, if_pos (vs_lo Hb0.out hc Hv.out (by rw [Hb1.out]; exact h1))]
                      rfl
                    · have h1' : ¬ ((s[i + 1].toNat : Int) < 128) := by omega
                      by_cases h2 : 191 < s[i + 1].toNat
                      · have h2' : (191 : Int) < s[i + 1].toNat := by omega
                        go_wp2
                        go_ret
                        refine ⟨?_, rfl⟩
                        rw [← hR.out, validD_step _ Hne.out, if_pos (vs_hi Hb0.out hc Hv.out (by rw [Hb1.out]; exact h2))]
                        rfl
                      · have h2' : ¬ ((191 : Int) < s[i + 1].toNat) := by omega
                        have Hlo : Hid (128 ≤ bt (s.data.toList.drop i) 1 ∧ bt (s.data.toList.drop i) 1 ≤ 191) := by rw [Hb1.out]; exact ⟨by omega, by omega⟩
                        go_wp2_with fail
                        go_loopg [8] (3 - 2) (fun gk s8 wq => ∃ k : Nat, s8 = .int .i64 k ∧ 2 ≤ k ∧ k ≤ 3 ∧ gk = 3 - k ∧ w = wq ∧ Hid (∀ j, 2 ≤ j → j < k → 128 ≤ bt (s.data.toList.drop i) j ∧ bt (s.data.toList.drop i) j ≤ 191))
                        case atStart => exact ⟨2, rfl, by omega, by omega, rfl, rfl, fun j h1 h2 => by omega⟩
                        case round =>
                          obtain ⟨k, rfl, hk2, hkn, rfl, rfl, hQ⟩ := hrel
                          by_cases hkl : k < 3
                          · have hkl' : (k : Int) < 3 := by omega
                            have hix : (i : Int) + k < s.size := by omega
                            have hix0 : (0 : Int) ≤ (i : Int) + k := by omega
                            have hik : i + k < s.size := by omega
                            have Hbk := hide (bt_s s i k hik)
                            have hi4 : (i : Int) ≤ 4000000 := by omega
                            by_cases g1 : s[i + k].toNat < 128
                            · have g1' : (s[i + k].toNat : Int) < 128 := by omega
                              go_wp2
                              go_ret
                              refine ⟨?_, rfl⟩
                              rw [← hR.out, validD_step _ Hne.out, if_pos (vs_mid Hb0.out hc Hv.out (by decide) hk2 hkl (by rw [Hbk.out]; exact .inl g1))]
                              rfl
                            · have g1' : ¬ ((s[i + k].toNat : Int) < 128) := by omega
                              by_cases g2 : 191 < s[i + k].toNat
                              · have g2' : (191 : Int) < s[i + k].toNat := by omega
                                go_wp2
                                go_ret
                                refine ⟨?_, rfl⟩
                                rw [← hR.out, validD_step _ Hne.out, if_pos (vs_mid Hb0.out hc Hv.out (by decide) hk2 hkl (by rw [Hbk.out]; exact .inr g2))]
                                rfl
                              · have g2' : ¬ ((191 : Int) < s[i + k].toNat) := by omega
                                go_wp2_with fail
                                go_roundg (3 - (k + 1))
                                case measure => omega
                                case rel =>
                                  refine ⟨k + 1, by go_num, by omega, by omega, rfl, rfl, fun j a1 a2 => ?_⟩
                                  by_cases hjk : j = k
                                  · subst hjk; rw [Hbk.out]; exact ⟨by omega, by omega⟩
                                  · exact hQ.out j a1 (by omega)
                          · obtain rfl : k = 3 := by omega
                            have hi4 : (i : Int) ≤ 4000000 := by omega
                            go_wp2_with fail
                            go_roundg (s.size - (i + 3))
                            case measure => omega
                            case rel => exact ⟨i + 3, by go_num, by omega, rfl, rfl, hide (by rw [← hR.out, validD_step _ Hne.out, vs_ok Hb0.out hc Hv.out (by rw [List.length_drop]; have := Hlen.out; omega) Hlo.out.1 Hlo.out.2 (by decide) (by decide) hQ.out, if_neg (by decide), List.drop_drop])⟩
                  · have hlt : (s.size : Int) - i < 3 := by omega
                    go_wp2
                    go_ret
                    refine ⟨?_, rfl⟩
                    rw [← hR.out, validD_step _ Hne.out, if_pos (vs_short Hb0.out hc Hv.out (by rw [List.length_drop]; have := Hlen.out; omega))]
                    rfl
                · have hnE := hcl
                  clear hcl
                  by_cases hcl : s[i].toNat = 239
                  · have hv : vhead s[i].toNat = (3, 128, 191) := by unfold vhead; repeat (first | rw [if_pos (by omega)] | rw [if_neg (by omega)])
                    have Hv := hide hv
                    have f194 : (194 : Int) ≤ s[i].toNat := by omega
                    have f223 : ¬ ((s[i].toNat : Int) ≤ 223) := by omega
                    have f224 : ((s[i].toNat : Int) == 224) = false := by rw [beq_eq_false_iff_ne]; omega
                    have f225 : (225 : Int) ≤ s[i].toNat := by omega
                    have f236 : ¬ ((s[i].toNat : Int) ≤ 236) := by omega
                    have f237 : ((s[i].toNat : Int) == 237) = false := by rw [beq_eq_false_iff_ne]; omega
                    have f238 : ((s[i].toNat : Int) == 238) = false := by rw [beq_eq_false_iff_ne]; omega
                    have f239 : ((s[i].toNat : Int) == 239) = true := by rw [beq_iff_eq]; omega
                    clear hv hcl
                    by_cases hln : i + 3 ≤ s.size
                    · have hlt : ¬ ((s.size : Int) - i < 3) := by omega
                      have hlt2 : (i : Int) + 1 < s.size := by omega
                      have h1s : i + 1 < s.size := by omega
                      have Hb1 := hide (bt_s s i 1 h1s)
                      by_cases h1 : s[i + 1].toNat < 128
                      · have h1' : (s[i + 1].toNat : Int) < 128 := by omega
                        go_wp2
                        go_ret
                        refine ⟨?_, rfl⟩
                        rw [← hR.out, validD_step _ Hne.out, if_pos (vs_lo Hb0.out hc Hv.out (by rw [Hb1.out]; exact h1))]
                        rfl
                      · have h1' : ¬ ((s[i + 1].toNat : Int) < 128) := by omega
                        by_cases h2 : 191 < s[i + 1].toNat
                        · have h2' : (191 : Int) < s[i + 1].toNat := by omega
                          go_wp2
                          go_ret
                          refine ⟨?_, rfl⟩
                          rw [← hR.out, validD_step _ Hne.out, if_pos (vs_hi Hb0.out hc Hv.out (by rw [Hb1.out]; exact h2))]
                          rfl
                        · have h2' : ¬ ((191 : Int) < s[i + 1].toNat) := by omega
                          have Hlo : Hid (128 ≤ bt (s.data.toList.drop i) 1 ∧ bt (s.data.toList.drop i) 1 ≤ 191) := by rw [Hb1.out]; exact ⟨by omega, by omega⟩
                          go_wp2_with fail
                          go_loopg [8] (3 - 2) (fun gk s8 wq => ∃ k : Nat, s8 = .int .i64 k ∧ 2 ≤ k ∧ k ≤ 3 ∧ gk = 3 - k ∧ w = wq ∧ Hid (∀ j, 2 ≤ j → j < k → 128 ≤ bt (s.data.toList.drop i) j ∧ bt (s.data.toList.drop i) j ≤ 191))
                          case atStart => exact ⟨2, rfl, by omega, by omega, rfl, rfl, fun j h1 h2 => by omega⟩
                          case round =>
                            obtain ⟨k, rfl, hk2, hkn, rfl, rfl, hQ⟩ := hrel
                            by_cases hkl : k < 3
                            · have hkl' : (k : Int) < 3 := by omega
                              have hix : (i : Int) + k < s.size := by omega
                              have hix0 : (0 : Int) ≤ (i : Int) + k := by omega
                              have hik : i + k < s.size := by omega
                              have Hbk := hide (bt_s s i k hik)
                              have hi4 : (i : Int) ≤ 4000000 := by omega
                              by_cases g1 : s[i + k].toNat < 128
                              · have g1' : (s[i + k].toNat : Int) < 128 := by omega
                                go_wp2
                                go_ret
                                refine ⟨?_, rfl⟩
                                rw [← hR.out, validD_step _ Hne.out, if_pos (vs_mid Hb0.out hc Hv.out (by decide) hk2 hkl (by rw [Hbk.out]; exact .inl g1))]
                                rfl
                              · have g1' : ¬ ((s[i + k].toNat : Int) < 128) := by omega
                                by_cases g2 : 191 < s[i + k].toNat
                                · have g2' : (191 : Int) < s[i + k].toNat := by omega
                                  go_wp2
                                  go_ret
                                  refine ⟨?_, rfl⟩
                                  rw [← hR.out, validD_step _ Hne.out, if_pos (vs_mid Hb0.out hc Hv.out (by decide) hk2 hkl (by rw [Hbk.out]; exact .inr g2))]
                                  rfl
                                · have g2' : ¬ ((191 : Int) < s[i + k].toNat) := by omega
                                  go_wp2_with fail
                                  go_roundg (3 - (k + 1))
                                  case measure => omega
                                  case rel =>
                                    refine ⟨k + 1, by go_num, by omega, by omega, rfl, rfl, fun j a1 a2 => ?_⟩
                                    by_cases hjk : j = k
                                    · subst hjk; rw [Hbk.out]; exact ⟨by omega, by omega⟩
                                    · exact hQ.out j a1 (by omega)
                            · obtain rfl : k = 3 := by omega
                              have hi4 : (i : Int) ≤ 4000000 := by omega
                              go_wp2_with fail
                              go_roundg (s.size - (i + 3))
                              case measure => omega
                              case rel => exact ⟨i + 3, by go_num, by omega, rfl, rfl, hide (by rw [← hR.out, validD_step _ Hne.out, vs_ok Hb0.out hc Hv.out (by rw [List.length_drop]; have := Hlen.out; omega) Hlo.out.1 Hlo.out.2 (by decide) (by decide) hQ.out, if_neg (by decide), List.drop_drop])⟩
                    · have hlt : (s.size : Int) - i < 3 := by omega
                      go_wp2
                      go_ret
                      refine ⟨?_, rfl⟩
                      rw [← hR.out, validD_step _ Hne.out, if_pos (vs_short Hb0.out hc Hv.out (by rw [List.length_drop]; have := Hlen.out; omega))]
                      rfl
                  · have hnF := hcl
                    clear hcl
                    by_cases hcl : s[i].toNat = 240
                    · have hv : vhead s[i].toNat = (4, 144, 191) := by unfold vhead; repeat (first | rw [if_pos (by omega)] | rw [if_neg (by omega)])
                      have Hv := hide hv
                      have f194 : (194 : Int) ≤ s[i].toNat := by omega
                      have f223 : ¬ ((s[i].toNat : Int) ≤ 223) := by omega
                      have f224 : ((s[i].toNat : Int) == 224) = false := by rw [beq_eq_false_iff_ne]; omega
                      have f225 : (225 : Int) ≤ s[i].toNat := by omega
                      have f236 : ¬ ((s[i].toNat : Int) ≤ 236) := by omega
                      have f237 : ((s[i].toNat : Int) == 237) = false := by rw [beq_eq_false_iff_ne]; omega
                      have f238 : ((s[i].toNat : Int) == 238) = false := by rw [beq_eq_false_iff_ne]; omega
                      have f239 : ((s[i].toNat : Int) == 239) = false := by rw [beq_eq_false_iff_ne]; omega
                      have f240 : ((s[i].toNat : Int) == 240) = true := by rw [beq_iff_eq]; omega
                      clear hv hcl
                      by_cases hln : i + 4 ≤ s.size
                      · have hlt : ¬ ((s.size : Int) - i < 4) := by omega
                        have hlt2 : (i : Int) + 1 < s.size := by omega
                        have h1s : i + 1 < s.size := by omega
                        have Hb1 := hide (bt_s s i 1 h1s)
                        by_cases h1 : s[i + 1].toNat < 144
                        · have h1' : (s[i + 1].toNat : Int) < 144 := by omega
                          go_wp2
                          go_ret
                          refine ⟨?_, rfl⟩
                          rw [← hR.out, validD_step _ Hne.out, if_pos (vs_lo Hb0.out hc Hv.out (by rw [Hb1.out]; exact h1))]
                          rfl
                        · have h1' : ¬ ((s[i + 1].toNat : Int) < 144) := by omega
                          by_cases h2 : 191 < s[i + 1].toNat
                          · have h2' : (191 : Int) < s[i + 1].toNat := by omega
                            go_wp2
                            go_ret
                            refine ⟨?_, rfl⟩
                            rw [← hR.out, validD_step _ Hne.out, if_pos (vs_hi Hb0.out hc Hv.out (by rw [Hb1.out]; exact h2))]
                            rfl
                          · have h2' : ¬ ((191 : Int) < s[i + 1].toNat) := by omega
                            have Hlo : Hid (144 ≤ bt (s.data.toList.drop i) 1 ∧ bt (s.data.toList.drop i) 1 ≤ 191) := by rw [Hb1.out]; exact ⟨by omega, by omega⟩
                            go_wp2_with fail
                            go_loopg [8] (4 - 2) (fun gk s8 wq => ∃ k : Nat, s8 = .int .i64 k ∧ 2 ≤ k ∧ k ≤ 4 ∧ gk = 4 - k ∧ w = wq ∧ Hid (∀ j, 2 ≤ j → j < k → 128 ≤ bt (s.data.toList.drop i) j ∧ bt (s.data.toList.drop i) j ≤ 191))
                            case atStart => exact ⟨2, rfl, by omega, by omega, rfl, rfl, fun j h1 h2 => by omega⟩
                            case round =>
                              obtain ⟨k, rfl, hk2, hkn, rfl, rfl, hQ⟩ := hrel
                              by_cases hkl : k < 4
                              · have hkl' : (k : Int) < 4 := by omega
                                have hix : (i : Int) + k < s.size := by omega
                                have hix0 : (0 : Int) ≤ (i : Int) + k := by omega
                                have hik : i + k < s.size := by omega
                                have Hbk := hide (bt_s s i k hik)
                                have hi4 : (i : Int) ≤ 4000000 := by omega
                                by_cases g1 : s[i + k].toNat < 128
                                · have g1' : (s[i + k].toNat : Int) < 128 := by omega
                                  go_wp2
                                  go_ret
                                  refine ⟨?_, rfl⟩
                                  rw [← hR.out, validD_step _ Hne.out, if_pos (vs_mid Hb0.out hc Hv.out (by decide) hk2 hkl (by rw [Hbk.out]; exact .inl g1))]
                                  rfl
                                · have g1' : ¬ ((s[i + k].toNat : Int) < 128) := by omega
                                  by_cases g2 : 191 < s[i + k].toNat
                                  · have g2' : (191 : Int) < s[i + k].toNat := by omega
                                    go_wp2
                                    go_ret
                                    refine ⟨?_, rfl⟩
                                    rw [← hR.out, validD_step _ Hne.out, if_pos (vs_mid Hb0.out hc Hv.out (by decide) hk2 hkl (by rw [Hbk.out]; exact .inr g2))]
                                    rfl
                                  · have g2' : ¬ ((191 : Int) < s[i + k].toNat) := by omega
                                    go_wp2_with fail
                                    go_roundg (4 - (k + 1))
                                    case measure => omega
                                    case rel =>
                                      refine ⟨k + 1, by go_num, by omega, by omega, rfl, rfl, fun j a1 a2 => ?_⟩
                                      by_cases hjk : j = k
                                      · subst hjk; rw [Hbk.out]; exact ⟨by omega, by omega⟩
                                      · exact hQ.out j a1 (by omega)
                              · obtain rfl : k = 4 := by omega
                                have hi4 : (i : Int) ≤ 4000000 := by omega
                                go_wp2_with fail
                                go_roundg (s.size - (i + 4))
                                case measure => omega
                                case rel => exact ⟨i + 4, by go_num, by omega, rfl, rfl, hide (by rw [← hR.out, validD_step _ Hne.out, vs_ok Hb0.out hc Hv.out (by rw [List.length_drop]; have := Hlen.out; omega) Hlo.out.1 Hlo.out.2 (by decide) (by decide) hQ.out, if_neg (by decide), List.drop_drop])⟩
                      · have hlt : (s.size : Int) - i < 4 := by omega
                        go_wp2
                        go_ret
                        refine ⟨?_, rfl⟩
                        rw [← hR.out, validD_step _ Hne.out, if_pos (vs_short Hb0.out hc Hv.out (by rw [List.length_drop]; have := Hlen.out; omega))]
                        rfl
                    · have hnG := hcl
                      clear hcl
                      by_cases hcl : 241 ≤ s[i].toNat ∧ s[i].toNat ≤ 243
                      · have hv : vhead s[i].toNat = (4, 128, 191) := by unfold vhead; repeat (first | rw [if_pos (by omega)] | rw [if_neg (by omega)])
                        have Hv := hide hv
                        have f194 : (194 : Int) ≤ s[i].toNat := by omega
                        have f223 : ¬ ((s[i].toNat : Int) ≤ 223) := by omega
                        have f224 : ((s[i].toNat : Int) == 224) = false := by rw [beq_eq_false_iff_ne]; omega
                        have f225 : (225 : Int) ≤ s[i].toNat := by omega
                        have f236 : ¬ ((s[i].toNat : Int) ≤ 236) := by omega
                        have f237 : ((s[i].toNat : Int) == 237) = false := by rw [beq_eq_false_iff_ne]; omega
                        have f238 : ((s[i].toNat : Int) == 238) = false := by rw [beq_eq_false_iff_ne]; omega
                        have f239 : ((s[i].toNat : Int) == 239) = false := by rw [beq_eq_false_iff_ne]; omega
                        have f240 : ((s[i].toNat : Int) == 240) = false := by rw [beq_eq_false_iff_ne]; omega
                        have f241 : (241 : Int) ≤ s[i].toNat := by omega
                        have f243 : (s[i].toNat : Int) ≤ 243 := by omega
                        clear hv hcl
                        by_cases hln : i + 4 ≤ s.size
                        · have hlt : ¬ ((s.size : Int) - i < 4) := by omega
                          have hlt2 : (i : Int) + 1 < s.size := by omega
                          have h1s : i + 1 < s.size := by omega
                          have Hb1 := hide (bt_s s i 1 h1s)
                          by_cases h1 : s[i + 1].toNat < 128
                          · have h1' : (s[i + 1].toNat : Int) < 128 := by omega
                            go_wp2
                            go_ret
                            refine ⟨?_, rfl⟩
                            rw [← hR.out, validD_step _ Hne.out, if_pos (vs_lo Hb0.out hc Hv.out (by rw [Hb1.out]; exact h1))]
                            rfl
                          · have h1' : ¬ ((s[i + 1].toNat : Int) < 128) := by omega
                            by_cases h2 : 191 < s[i + 1].toNat
                            · have h2' : (191 : Int) < s[i + 1].toNat := by omega
                              go_wp2
                              go_ret
                              refine ⟨?_, rfl⟩
                              rw [← hR.out, validD_step _ Hne.out, if_pos (vs_hi Hb0.out hc Hv.out (by rw [Hb1.out]; exact h2))]
                              rfl
                            · have h2' : ¬ ((191 : Int) < s[i + 1].toNat) := by omega
                              have Hlo : Hid (128 ≤ bt (s.data.toList.drop i) 1 ∧ bt (s.data.toList.drop i) 1 ≤ 191) := by rw [Hb1.out]; exact ⟨by omega, by omega⟩
                              go_wp2_with fail
                              go_loopg [8] (4 - 2) (fun gk s8 wq => ∃ k : Nat, s8 = .int .i64 k ∧ 2 ≤ k ∧ k ≤ 4 ∧ gk = 4 - k ∧ w = wq ∧ Hid (∀ j, 2 ≤ j → j < k → 128 ≤ bt (s.data.toList.drop i) j ∧ bt (s.data.toList.drop i) j ≤ 191))
                              case atStart => exact ⟨2, rfl, by omega, by omega, rfl, rfl, fun j h1 h2 => by omega⟩
                              case round =>
                                obtain ⟨k, rfl, hk2, hkn, rfl, rfl, hQ⟩ := hrel
                                by_cases hkl : k < 4
                                · have hkl' : (k : Int) < 4 := by omega
                                  have hix : (i : Int) + k < s.size := by omega
                                  have hix0 : (0 : Int) ≤ (i : Int) + k := by omega
                                  have hik : i + k < s.size := by omega
                                  have Hbk := hide (bt_s s i k hik)
                                  have hi4 : (i : Int) ≤ 4000000 := by omega
                                  by_cases g1 : s[i + k].toNat < 128
                                  · have g1' : (s[i + k].toNat : Int) < 128 := by omega
                                    go_wp2
                                    go_ret
                                    refine ⟨?_, rfl⟩
                                    rw [← hR.out, validD_step _ Hne.out, if_pos (vs_mid Hb0.out hc Hv.out (by decide) hk2 hkl (by rw [Hbk.out]; exact .inl g1))]
                                    rfl
                                  · have g1' : ¬ ((s[i + k].toNat : Int) < 128) := by omega
                                    by_cases g2 : 191 < s[i + k].toNat
                                    · have g2' : (191 : Int) < s[i + k].toNat := by omega
                                      go_wp2
                                      go_ret
                                      refine ⟨?_, rfl⟩
                                      rw [← hR.out, validD_step _ Hne.out, if_pos (vs_mid Hb0.out hc Hv.out (by decide) hk2 hkl (by rw [Hbk.out]; exact .inr g2))]
                                      rfl
                                    · have g2' : ¬ ((191 : Int) < s[i + k].toNat) := by omega
                                      go_wp2_with fail
                                      go_roundg (4 - (k + 1))
                                      case measure => omega
                                      case rel =>
                                        refine ⟨k + 1, by go_num, by omega, by omega, rfl, rfl, fun j a1 a2 => ?_⟩
                                        by_cases hjk : j = k
                                        · subst hjk; rw [Hbk.out]; exact ⟨by omega, by omega⟩
                                        · exact hQ.out j a1 (by omega)
                                · obtain rfl : k = 4 := by omega
                                  have hi4 : (i : Int) ≤ 4000000 := by omega
                                  go_wp2_with fail
                                  go_roundg (s.size - (i + 4))
                                  case measure => omega
                                  case rel => exact ⟨i + 4, by go_num, by omega, rfl, rfl, hide (by rw [← hR.out, validD_step _ Hne.out, vs_ok Hb0.out hc Hv.out (by rw [List.length_drop]; have := Hlen.out; omega) Hlo.out.1 Hlo.out.2 (by decide) (by decide) hQ.out, if_neg (by decide), List.drop_drop])⟩
                        · have hlt : (s.size : Int) - i < 4 := by omega
                          go_wp2
                          go_ret
                          refine ⟨?_, rfl⟩
                          rw [← hR.out, validD_step _ Hne.out, if_pos (vs_short Hb0.out hc Hv.out (by rw [List.length_drop]; have := Hlen.out; omega))]
                          rfl
                      · have hnH := hcl
                        clear hcl
                        by_cases hcl : s[i].toNat = 244
                        · have hv : vhead s[i].toNat = (4, 128, 143) := by unfold vhead; repeat (first | rw [if_pos (by omega)] | rw [if_neg (by omega)])
                          have Hv := hide hv
                          have f194 : (194 : Int) ≤ s[i].toNat := by omega
                          have f223 : ¬ ((s[i].toNat : Int) ≤ 223) := by omega
                          have f224 : ((s[i].toNat : Int) == 224) = false := by rw [beq_eq_false_iff_ne]; omega
                          have f225 : (225 : Int) ≤ s[i].toNat := by omega
                          have f236 : ¬ ((s[i].toNat : Int) ≤ 236) := by omega
                          have f237 : ((s[i].toNat : Int) == 237) = false := by rw [beq_eq_false_iff_ne]; omega
                          have f238 : ((s[i].toNat : Int) == 238) = false := by rw [beq_eq_false_iff_ne]; omega
                          have f239 : ((s[i].toNat : Int) == 239) = false := by rw [beq_eq_false_iff_ne]; omega
                          have f240 : ((s[i].toNat : Int) == 240) = false := by rw [beq_eq_false_iff_ne]; omega
                          have f241 : (241 : Int) ≤ s[i].toNat := by omega
                          have f243 : ¬ ((s[i].toNat : Int) ≤ 243) := by omega
                          have f244 : ((s[i].toNat : Int) == 244) = true := by rw [beq_iff_eq]; omega
                          clear hv hcl
                          by_cases hln : i + 4 ≤ s.size
                          · have hlt : ¬ ((s.size : Int) - i < 4) := by omega
                            have hlt2 : (i : Int) + 1 < s.size := by omega
                            have h1s : i + 1 < s.size := by omega
                            have Hb1 := hide (bt_s s i 1 h1s)
                            by_cases h1 : s[i + 1].toNat < 128
                            · have h1' : (s[i + 1].toNat : Int) < 128 := by omega
                              go_wp2
                              go_ret
                              refine ⟨?_, rfl⟩
                              rw [← hR.out, validD_step _ Hne.out, if_pos (vs_lo Hb0.out hc Hv.out (by rw [Hb1.out]; exact h1))]
                              rfl
                            · have h1' : ¬ ((s[i + 1].toNat : Int) < 128) := by omega
                              by_cases h2 : 143 < s[i + 1].toNat
                              · have h2' : (143 : Int) < s[i + 1].toNat := by omega
                                go_wp2
                                go_ret
                                refine ⟨?_, rfl⟩
                                rw [← hR.out, validD_step _ Hne.out, if_pos (vs_hi Hb0.out hc Hv.out (by rw [Hb1.out]; exact h2))]
                                rfl
                              · have h2' : ¬ ((143 : Int) < s[i + 1].toNat) := by omega
                                have Hlo : Hid (128 ≤ bt (s.data.toList.drop i) 1 ∧ bt (s.data.toList.drop i) 1 ≤ 143) := by rw [Hb1.out]; exact ⟨by omega, by omega⟩
                                go_wp2_with fail
                                go_loopg [8] (4 - 2) (fun gk s8 wq => ∃ k : Nat, s8 = .int .i64 k ∧ 2 ≤ k ∧ k ≤ 4 ∧ gk = 4 - k ∧ w = wq ∧ Hid (∀ j, 2 ≤ j → j < k → 128 ≤ bt (s.data.toList.drop i) j ∧ bt (s.data.toList.drop i) j ≤ 191))
                                case atStart => exact ⟨2, rfl, by omega, by omega, rfl, rfl, fun j h1 h2 => by omega⟩
                                case round =>
                                  obtain ⟨k, rfl, hk2, hkn, rfl, rfl, hQ⟩ := hrel
                                  by_cases hkl : k < 4
                                  · have hkl' : (k : Int) < 4 := by omega
                                    have hix : (i : Int) + k < s.size := by omega
                                    have hix0 : (0 : Int) ≤ (i : Int) + k := by omega
                                    have hik : i + k < s.size := by omega
                                    have Hbk := hide (bt_s s i k hik)
                                    have hi4 : (i : Int) ≤ 4000000 := by omega
                                    by_cases g1 : s[i + k].toNat < 128
                                    · have g1' : (s[i + k].toNat : Int) < 128 := by omega
                                      go_wp2
                                      go_ret
                                      refine ⟨?_, rfl⟩
                                      rw [← hR.out, validD_step _ Hne.out, if_pos (vs_mid Hb0.out hc Hv.out (by decide) hk2 hkl (by rw [Hbk.out]; exact .inl g1))]
                                      rfl
                                    · have g1' : ¬ ((s[i + k].toNat : Int) < 128) := by omega
                                      by_cases g2 : 191 < s[i + k].toNat
                                      · have g2' : (191 : Int) < s[i + k].toNat := by omega
                                        go_wp2
                                        go_ret
                                        refine ⟨?_, rfl⟩
                                        rw [← hR.out, validD_step _ Hne.out, if_pos (vs_mid Hb0.out hc Hv.out (by decide) hk2 hkl (by rw [Hbk.out]; exact .inr g2))]
                                        rfl
                                      · have g2' : ¬ ((191 : Int) < s[i + k].toNat) := by omega
                                        go_wp2_with fail
                                        go_roundg (4 - (k + 1))
                                        case measure => omega
                                        case rel =>
                                          refine ⟨k + 1, by go_num, by omega, by omega, rfl, rfl, fun j a1 a2 => ?_⟩
                                          by_cases hjk : j = k
                                          · subst hjk; rw [Hbk.out]; exact ⟨by omega, by omega⟩
                                          · exact hQ.out j a1 (by omega)
                                  · obtain rfl : k = 4 := by omega
                                    have hi4 : (i : Int) ≤ 4000000 := by omega
                                    go_wp2_with fail
                                    go_roundg (s.size - (i + 4))
                                    case measure => omega
                                    case rel => exact ⟨i + 4, by go_num, by omega, rfl, rfl, hide (by rw [← hR.out, validD_step _ Hne.out, vs_ok Hb0.out hc Hv.out (by rw [List.length_drop]; have := Hlen.out; omega) Hlo.out.1 Hlo.out.2 (by decide) (by decide) hQ.out, if_neg (by decide), List.drop_drop])⟩
                          · have hlt : (s.size : Int) - i < 4 := by omega
                            go_wp2
                            go_ret
                            refine ⟨?_, rfl⟩
                            rw [← hR.out, validD_step _ Hne.out, if_pos (vs_short Hb0.out hc Hv.out (by rw [List.length_drop]; have := Hlen.out; omega))]
                            rfl
                        · have hnI := hcl
                          clear hcl
                          have hv : vhead s[i].toNat = (0, 0, 0) := by unfold vhead; repeat (first | rw [if_pos (by omega)] | rw [if_neg (by omega)])
                          have Hv := hide hv
                          by_cases hlow : s[i].toNat < 194
                          · have f194 : ¬ ((194 : Int) ≤ s[i].toNat) := by omega
                            have f225 : ¬ ((225 : Int) ≤ s[i].toNat) := by omega
                            have f241 : ¬ ((241 : Int) ≤ s[i].toNat) := by omega
                            have f224 : ((s[i].toNat : Int) == 224) = false := by rw [beq_eq_false_iff_ne]; omega
                            have f237 : ((s[i].toNat : Int) == 237) = false := by rw [beq_eq_false_iff_ne]; omega
                            have f238 : ((s[i].toNat : Int) == 238) = false := by rw [beq_eq_false_iff_ne]; omega
                            have f239 : ((s[i].toNat : Int) == 239) = false := by rw [beq_eq_false_iff_ne]; omega
                            have f240 : ((s[i].toNat : Int) == 240) = false := by rw [beq_eq_false_iff_ne]; omega
                            have f244 : ((s[i].toNat : Int) == 244) = false := by rw [beq_eq_false_iff_ne]; omega
                            clear hv
                            go_wp2
                            go_ret
                            refine ⟨?_, rfl⟩
                            rw [← hR.out, validD_step _ Hne.out, if_pos (vs_none Hb0.out hc Hv.out)]
                            rfl
                          · have f194 : (194 : Int) ≤ s[i].toNat := by omega
                            have f223 : ¬ ((s[i].toNat : Int) ≤ 223) := by omega
                            have f224 : ((s[i].toNat : Int) == 224) = false := by rw [beq_eq_false_iff_ne]; omega
                            have f225 : (225 : Int) ≤ s[i].toNat := by omega
                            have f236 : ¬ ((s[i].toNat : Int) ≤ 236) := by omega
                            have f237 : ((s[i].toNat : Int) == 237) = false := by rw [beq_eq_false_iff_ne]; omega
                            have f238 : ((s[i].toNat : Int) == 238) = false := by rw [beq_eq_false_iff_ne]; omega
                            have f239 : ((s[i].toNat : Int) == 239) = false := by rw [beq_eq_false_iff_ne]; omega
                            have f240 : ((s[i].toNat : Int) == 240) = false := by rw [beq_eq_false_iff_ne]; omega
                            have f241 : (241 : Int) ≤ s[i].toNat := by omega
                            have f243 : ¬ ((s[i].toNat : Int) ≤ 243) := by omega
                            have f244 : ((s[i].toNat : Int) == 244) = false := by rw [beq_eq_false_iff_ne]; omega
                            clear hv
                            go_wp2
                            go_ret
                            refine ⟨?_, rfl⟩
                            rw [← hR.out, validD_step _ Hne.out, if_pos (vs_none Hb0.out hc Hv.out)]
                            rfl
    · obtain rfl : i = s.size := by omega
      have him' : ¬ (s.size : Int) < s.size := by omega
      go_wp2
      go_ret
      refine ⟨?_, rfl⟩
      rw [← hR.out, List.drop_of_length_le (by simp), validD_nil]
      rfl
end Go.Proofs.Qxb6615582aGreatFmt
