import Derived.Test.Qxb6615582aGreatFmtFi
import Derived.Test.Qxb6615582aGreatFmtVw
import Derived.Test.Qxb6615582aGreatFmtShv
import Derived.Test.Qxb6615582aGreatFmtNr4
import Derived.Deep.RegionHeld3
import Derived.Deep.DeepCutAuto
namespace Go.Proofs.Qxb6615582aGreatFmt
open Go.RowKit
attribute [local go_sem] Go.wp_at_zero Go.wp_at_succ

/-- Is the text UTF-8? -/
def vld (s : ByteArray) : Bool := Lib.validD s.data.toList
/-- The first field that is not. -/
def Fbad (ss : List ByteArray) (k : Nat) : Prop := ∃ h : k < ss.length, vld ss[k] = false ∧ ∀ j (hj : j < ss.length), j < k → vld ss[j] = true
def Fgood (ss : List ByteArray) : Prop := ∀ j (hj : j < ss.length), vld ss[j] = true
def FiPost (w : World) (ss : List ByteArray) (e : Ending) (w' : World) : Prop := w' = w ∧ ((e = .returned (.int .i64 (-1)) ∧ Fgood ss) ∨ ∃ k : Nat, e = .returned (.int .i64 k) ∧ Fbad ss k)
set_option maxRecDepth 100000 in
set_option maxHeartbeats 2000000 in
/-- zzFirstInvalid. -/
theorem firstInvalid_c {w : World} {ao : Option Addr} {cap : Nat} {ss : List ByteArray} (hs : Sv w ao ss) (hm : ss.length ≤ 4000000) (hz : ∀ s ∈ ss, s.size ≤ 4000000) :
    Calls Tryz.prog 24 #[.slice ao ss.length cap] w (FiPost w ss) := by
  have Hs := hide hs
  have Hz := hide hz
  clear hs hz
  obtain ⟨m, hmm⟩ : ∃ m, m = ss.length := ⟨_, rfl⟩
  rw [← hmm] at hm ⊢
  have Hm := hide hmm
  clear hmm
  have hm' : (m : Int) ≤ 4000000 := by omega
  go_enter Tryz.func24, Tryz.ntmps24
  go_wp2_with fail
  go_loopg [3] m (fun gk s3 wr => ∃ k : Nat, s3 = .int .i64 k ∧ k ≤ m ∧ gk = m - k ∧ w = wr ∧ Hid (∀ j (hj : j < ss.length), j < k → vld ss[j] = true))
  case atStart => exact ⟨0, rfl, Nat.zero_le _, rfl, rfl, fun j _ h => absurd h (Nat.not_lt_zero _)⟩
  case round =>
    obtain ⟨k, rfl, hk, rfl, rfl, hQ⟩ := hrel
    by_cases hkm : k < m
    · have hkm' : (k : Int) < m := by omega
      have hks : k < ss.length := by rw [← Hm.out]; exact hkm
      obtain ⟨b, o, hao, hc⟩ := Hs.out k hks
      subst hao
      obtain ⟨s, hss⟩ : ∃ s, s = ss[k] := ⟨_, rfl⟩
      rw [← hss] at hc
      have Hks := hide hks
      have Hss := hide hss
      have H33 := hide (zvalid_c w s (by rw [hss]; exact Hz.out _ (List.getElem_mem hks)))
      obtain ⟨V, hV⟩ : ∃ V, Lib.validD s.data.toList = V := ⟨_, rfl⟩
      rw [hV] at H33
      have HV := hide hV
      clear hss hV
      cases V
      · go_wp2_with ((go_at_call 33; refine H33.out.mono ?_; rintro e w1 ⟨rfl, hw1⟩; subst w1))
        go_ret
        exact ⟨rfl, .inr ⟨k, rfl, Hks.out, by rw [← Hss.out]; exact HV.out, hQ.out⟩⟩
      · go_wp2_with ((go_at_call 33; refine H33.out.mono ?_; rintro e w1 ⟨rfl, hw1⟩; subst w1))
        go_roundg (m - (k + 1))
        case measure => omega
        case rel =>
          refine ⟨k + 1, by go_num, by omega, rfl, rfl, fun j hj hjk => ?_⟩
          by_cases hjk2 : j = k
          · subst hjk2; rw [← Hss.out]; exact HV.out
          · exact hQ.out j hj (by omega)
    · obtain rfl : k = m := by omega
      have hkm' : ¬ (k : Int) < k := by omega
      go_wp2
      go_ret
      exact ⟨rfl, .inl ⟨rfl, fun j hj => hQ.out j hj (by rw [Hm.out]; exact hj)⟩⟩
end Go.Proofs.Qxb6615582aGreatFmt
