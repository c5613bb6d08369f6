import Derived.Test.Qxb6615582aGreatFmtLw3
namespace Go.Proofs.Qxb6615582aGreatFmt
open Go.RowKit

theorem bytes_ext {s t : ByteArray} (h : s.toList = t.toList) : s = t := by
  apply ByteArray.ext
  apply Array.ext'
  rwa [Lib.toList_data, Lib.toList_data] at h
theorem take_snoc_eq {ss tt : List ByteArray} {k : Nat} (h1 : k < ss.length) (h2 : k < tt.length) (h : ss.take k = tt.take k) (he : ss[k] = tt[k]) : ss.take (k + 1) = tt.take (k + 1) := by
  rw [List.take_succ_eq_append_getElem h1, List.take_succ_eq_append_getElem h2, h, he]

def EqS (w : World) (ss tt : List ByteArray) (e : Ending) (w' : World) : Prop := (∃ B : Bool, e = .returned (.bool B) ∧ (B = true ↔ ss = tt)) ∧ ∃ k, w' = w.drewN k
set_option maxRecDepth 100000 in
set_option maxHeartbeats 2000000 in
/-- zzEqualStrings. -/
theorem equalS_c {w : World} {ao bo : Option Addr} {ca cb : Nat} {ss tt : List ByteArray} (hs : Sv w ao ss) (ht : Sv w bo tt) (hm : ss.length ≤ 4000000) (hn : tt.length ≤ 4000000) :
    Calls Tryz.prog 20 #[.slice ao ss.length ca, .slice bo tt.length cb] w (EqS w ss tt) := by
  have Hs := hide hs
  have Ht := hide ht
  clear hs ht
  obtain ⟨m, hmm⟩ : ∃ m, m = ss.length := ⟨_, rfl⟩
  obtain ⟨q, hqq⟩ : ∃ q, q = tt.length := ⟨_, rfl⟩
  rw [← hmm] at hm ⊢
  rw [← hqq] at hn ⊢
  have Hm := hide hmm
  have Hq := hide hqq
  clear hmm hqq
  have hm' : (m : Int) ≤ 4000000 := by omega
  have hn' : (q : Int) ≤ 4000000 := by omega
  by_cases hlen : m = q
  · subst hlen
    go_enter Tryz.func20, Tryz.ntmps20
    go_wp2_with fail
    go_loopg [5] m (fun gk s5 wr => ∃ k : Nat, s5 = .int .i64 k ∧ k ≤ m ∧ gk = m - k ∧ Hid (ss.take k = tt.take k) ∧ Hid (∃ d, wr = w.drewN d))
    case atStart => exact ⟨0, rfl, Nat.zero_le _, rfl, rfl, 0, rfl⟩
    case round =>
      obtain ⟨k, rfl, hk, rfl, htk, hd⟩ := hrel
      by_cases hkm : k < m
      · have hkm' : (k : Int) < m := by omega
        have hks : k < ss.length := by rw [← Hm.out]; exact hkm
        have hkt : k < tt.length := by rw [← Hq.out]; exact hkm
        obtain ⟨b, o, hao, hc⟩ := Hs.out k hks
        obtain ⟨b2, o2, hbo, hc2⟩ := Ht.out k hkt
        subst hao hbo
        obtain ⟨s, hss⟩ : ∃ s, s = ss[k] := ⟨_, rfl⟩
        obtain ⟨t, htt⟩ : ∃ t, t = tt[k] := ⟨_, rfl⟩
        rw [← hss] at hc
        rw [← htt] at hc2
        have hc' : wr.cell? ⟨b, o + k, none⟩ = some (.string s) := by obtain ⟨d, rfl⟩ := hd.out; exact hc
        have hc2' : wr.cell? ⟨b2, o2 + k, none⟩ = some (.string t) := by obtain ⟨d, rfl⟩ := hd.out; exact hc2
        have Hss := hide hss
        have Htt := hide htt
        clear hc hc2 hss htt
        have Hks := hide hks
        have Hkt := hide hkt
        cases hst : (s.toList == t.toList)
        · go_wp2_with fail
          go_quiet (fail)
          go_wp2_with fail
          go_ret
          refine ⟨⟨false, rfl, (fun e => by cases e), fun e => ?_⟩, ?_⟩
          · exfalso
            have : s = t := by rw [Hss.out, Htt.out]; simp [e]
            rw [this] at hst
            simp at hst
          · obtain ⟨d, hd⟩ := hd.out
            rw [hd]
            exact ⟨_, World.drewN_drewN _ _ _⟩
        · go_wp2_with fail
          go_quiet (fail)
          go_wp2_with fail
          go_roundg (m - (k + 1))
          case measure => omega
          case rel =>
            refine ⟨k + 1, by go_num, by omega, rfl, ?_, ?_⟩
            · refine take_snoc_eq hks hkt htk.out ?_
              rw [← Hss.out, ← Htt.out]
              exact bytes_ext (by simpa using hst)
            · obtain ⟨d, hd⟩ := hd.out
              rw [hd]
              exact ⟨_, World.drewN_drewN _ _ _⟩
      · have hkm' : ¬ (k : Int) < m := by omega
        obtain rfl : k = m := by omega
        go_wp2
        go_ret
        refine ⟨⟨true, rfl, fun _ => ?_, fun _ => rfl⟩, hd.out⟩
        have h5 := htk.out
        rw [List.take_of_length_le (Nat.le_of_eq Hm.out.symm), List.take_of_length_le (Nat.le_of_eq Hq.out.symm)] at h5
        exact h5
  · have hlen' : ((m : Int) == (q : Int)) = false := by rw [beq_eq_false_iff_ne]; omega
    go_enter Tryz.func20, Tryz.ntmps20
    go_wp2
    go_ret
    refine ⟨⟨false, rfl, (fun e => by cases e), fun e => ?_⟩, 0, rfl⟩
    exfalso
    rw [Hm.out, Hq.out, e] at hlen
    exact hlen rfl
end Go.Proofs.Qxb6615582aGreatFmt
