import Derived.Test.Qxb6606282aDoorWalksF
namespace Go.Proofs.Qxb6606282aDoor
open Go.RowKit

set_option maxRecDepth 100000 in
set_option maxHeartbeats 400000 in
theorem zzKey_c {w0 w : World} (E : Env w0) (hb : Below w0.heap.size w0 w) {sg I F X : List UInt8} {s : ByteArray} (hL : Lit s.data.toList sg I F X) (hs : s.size ≤ 16777216) :
    Calls Tryd.prog 12 #[.string s] w fun e w' => ∃ t : ByteArray, e = .returned (.string t) ∧ KeyOut sg I F X s.size t ∧ Below w.heap.size w w' := by
  have H := hide (numberKey_c E hb hL hs)
  clear hb hL
  go_enter Tryd.func12, Tryd.ntmps12
  go_wp2_with fail
  refine H.out.mono ?_
  rintro e w' ⟨t, rfl, hk, hb⟩
  have Hk := hide hk
  have Hb := hide hb
  clear hk hb
  go_wp2
  go_ret
  exact ⟨t, rfl, Hk.out, Hb.out⟩

theorem bytes_ext {a b : ByteArray} (h : a.data.toList = b.data.toList) : a = b := by
  cases a; cases b
  simp only [ByteArray.mk.injEq]
  exact Array.toList_inj.1 h

/-- A key is a literal; its key is itself. -/
theorem KeyOut.again {sg I F X : List UInt8} {sz : Nat} {t : ByteArray} (hs : sg = [] ∨ sg = [45]) (hI : Dg I) (hF : OkF F) (hl : I.length + F.length ≤ sz) (h : KeyOut sg I F X sz t) :
    jsonB t.data.toList = true ∧ t.size ≤ 2 * sz + 100 ∧ ∃ sg' I' F' X', Lit t.data.toList sg' I' F' X' ∧ ∀ (z : Nat) (t' : ByteArray), KeyOut sg' I' F' X' z t' → t' = t := by
  rcases h.out with ⟨h0, ht⟩ | ⟨pn, pd, h0, hp, ht⟩
  · refine ⟨by rw [ht]; exact json_zero, by rw [← len_data, ht]; simp only [List.length_singleton]; omega, [], [48], [], [], by rw [ht]; exact zero_lit, fun z t' h => ?_⟩
    rcases h.out with ⟨_, ht'⟩ | ⟨_, _, hn, _, _⟩
    · exact bytes_ext (ht'.trans ht.symm)
    · exact absurd (by decide) hn
  · obtain ⟨n, hc, hn⟩ : ∃ n, CI n pd.data.toList ∧ strI pn pd.data.toList = strI n pd.data.toList := by
      by_cases hz : pd.data.toList = []
      · exact ⟨false, ⟨hp.dg, hp.hd, fun h => by cases h⟩, by rw [hz]; rfl⟩
      · exact ⟨pn, ⟨hp.dg, hp.hd, fun _ => hz⟩, rfl⟩
    have hd := sig_Cd hI hF h0
    rw [hn] at ht
    refine ⟨by rw [ht]; exact json_key hs hd hc, ?_, sg, [48], 46 :: sig I F, 101 :: strI n pd.data.toList, by rw [ht]; exact key_lit hs hd hc, fun z t' h => ?_⟩
    · have h1 := congrArg List.length ht
      have h2 := sig_len I F
      have h3 : (strI n pd.data.toList).length ≤ pd.size + 1 := by
        have := len_data pd
        unfold strI
        split
        · simp
        · split
          · rw [List.length_cons]; omega
          · omega
      have h4 : sg.length ≤ 1 := by rcases hs with h | h <;> rw [h] <;> decide
      have h5 := hp.sz
      rw [len_data] at h1
      simp only [Qxb6606282aDoor.key, List.length_append, List.length_cons, List.length_nil] at h1
      omega
    · rcases h.out with ⟨hz, _⟩ | ⟨pn', pd', _, hp', ht'⟩
      · rw [(sig_key hd).1] at hz; exact absurd hz h0
      · have h1 := hp'.same (by
          show (tl ([48] ++ sig I F)).length = (sig I F).length
          rw [(sig_key hd).2])
        have h2 : strI pn' pd'.data.toList = strI n pd.data.toList := by
          rw [h1]
          show strI (parI (strI n pd.data.toList)).1 (parI (strI n pd.data.toList)).2 = _
          rw [parI_str hc]
        rw [(sig_key hd).1, h2] at ht'
        exact bytes_ext (ht'.trans ht.symm)

set_option maxRecDepth 100000 in
set_option maxHeartbeats 400000 in
theorem law_any {w : World} (E : Env w) (s : ByteArray) :
    Calls Tryd.prog 4 #[.string s] w fun e w' => e = .returned (.bool true) ∧ Below w.heap.size w w' := by
  by_cases h1 : s.size ≤ 1048576
  · have h1' : ¬ (1048576 : Int) < s.size := by omega
    cases hj : jsonB s.data.toList with
    | false =>
      have HJ := hide hj
      clear hj
      have HC : Hid (∀ w, Calls Tryd.prog 7 #[.string s] w fun e w' => e = .returned (.bool false) ∧ w' = w) := by
        intro w
        rw [← HJ.out]; exact isJSON_c s (by omega) w
      go_enter Tryd.func4, Tryd.ntmps4
      go_wp2_with (first | (go_at_call 11; refine (zzBytes_yes _ h1 _).mono ?_; rintro e w' ⟨rfl, hw⟩; obtain rfl := hw.symm; clear hw) | (go_at_call 7; refine (HC.out _).mono ?_; rintro e w' ⟨rfl, hw⟩; obtain rfl := hw.symm; clear hw))
      go_ret
      exact ⟨rfl, Below.refl _ _⟩
    | true =>
      have HC : Hid (∀ w, Calls Tryd.prog 7 #[.string s] w fun e w' => e = .returned (.bool true) ∧ w' = w) := by
        intro w
        rw [← hj]; exact isJSON_c s (by omega) w
      obtain ⟨sg, I, F, X, hL⟩ := json_lit hj
      have HL := hide hL
      clear hj hL
      go_enter Tryd.func4, Tryd.ntmps4
      go_wp2_with (first | (go_at_call 11; refine (zzBytes_yes _ h1 _).mono ?_; rintro e w' ⟨rfl, hw⟩; obtain rfl := hw.symm; clear hw) | (go_at_call 7; refine (HC.out _).mono ?_; rintro e w' ⟨rfl, hw⟩; obtain rfl := hw.symm; clear hw))
      refine (zzKey_c E (Below.refl _ _) HL.out (by omega)).mono ?_
      rintro e w1 ⟨t, rfl, hk, hb⟩
      have Hb := hide hb
      obtain ⟨k1, k2, sg', I', F', X', k3, k4⟩ := KeyOut.again HL.out.hs HL.out.hI HL.out.hF (by
        have h2 := congrArg List.length HL.out.eq
        simp only [List.length_append, len_data] at h2
        omega) hk
      have HC2 : Hid (∀ w, Calls Tryd.prog 7 #[.string t] w fun e w' => e = .returned (.bool true) ∧ w' = w) := by
        intro w
        rw [← k1]; exact isJSON_c t (by omega) w
      have HK : Hid (Calls Tryd.prog 12 #[.string t] w1 fun e w' => e = .returned (.string t) ∧ Below w1.heap.size w1 w') := by
        refine (zzKey_c E Hb.out k3 (by omega)).mono ?_
        rintro e w2 ⟨t', rfl, hk', hb'⟩
        exact ⟨by rw [k4 _ _ hk'], hb'⟩
      clear hb hk k1 k3 k4 HC
      go_wp2_with (go_at_call 7; refine (HC2.out _).mono ?_; rintro e w' ⟨rfl, hw⟩; obtain rfl := hw.symm; clear hw)
      refine HK.out.mono ?_
      rintro e w2 ⟨rfl, hb2⟩
      have Hb2 := hide hb2
      clear hb2
      go_wp2
      go_ret
      exact ⟨ret_bool (by simp), Hb.out.trans (Hb2.out.mono Hb.out.size)⟩
  · go_enter Tryd.func4, Tryd.ntmps4
    go_wp2_with (go_at_call 11; refine (zzBytes_no _ h1 _).mono ?_; rintro e w' ⟨rfl, rfl⟩)
    go_ret
    exact ⟨rfl, Below.refl _ _⟩
end Go.Proofs.Qxb6606282aDoor
