import Derived.Test.Qxb6606282aDoorWalksD
import Derived.Test.Qxb6606282aDoorWalksE
namespace Go.Proofs.Qxb6606282aDoor
open Go.RowKit

set_option maxHeartbeats 400000 in
theorem zzBytes_yes (s : ByteArray) (hn : s.size ≤ 1048576) (w : World) :
    Calls Tryd.prog 11 #[.string s] w fun e w' => e = .returned (.bool true) ∧ w' = w := by
  have h1 : ¬ (1048576 : Int) < s.size := by omega
  go_enter Tryd.func11, Tryd.ntmps11
  go_wp2
  go_ret
  exact ⟨rfl, rfl⟩
set_option maxHeartbeats 400000 in
theorem zzBytes_no (s : ByteArray) (hn : ¬ s.size ≤ 1048576) (w : World) :
    Calls Tryd.prog 11 #[.string s] w fun e w' => e = .returned (.bool false) ∧ w' = w := by
  have h1 : (1048576 : Int) < s.size := by omega
  go_enter Tryd.func11, Tryd.ntmps11
  go_wp2
  go_ret
  exact ⟨rfl, rfl⟩

/-- What numberKey hands back. -/
structure KeyOut (sg I F X : List UInt8) (sz : Nat) (t : ByteArray) : Prop where
  out : (sig I F = [] ∧ t.data.toList = [48]) ∨ ∃ (pn : Bool) (pd : ByteArray), sig I F ≠ [] ∧ PointOut I F X sz pn pd ∧ t.data.toList = key sg (sig I F) (strI pn pd.data.toList)
theorem KeyOut.zero {sg I F X : List UInt8} {sz : Nat} {t : ByteArray} (h0 : sig I F = []) (ht : t.data.toList = [48]) : KeyOut sg I F X sz t :=
  ⟨.inl ⟨h0, ht⟩⟩
theorem KeyOut.key {sg I F X : List UInt8} {sz : Nat} {t : ByteArray} (pn : Bool) (pd : ByteArray) (h0 : sig I F ≠ []) (hp : PointOut I F X sz pn pd)
    (ht : t.data.toList = Qxb6606282aDoor.key sg (sig I F) (strI pn pd.data.toList)) : KeyOut sg I F X sz t :=
  ⟨.inr ⟨pn, pd, h0, hp, ht⟩⟩

theorem sg_no {sg : List UInt8} (h : sg = [] ∨ sg = [45]) (hb : decide (sg = [45]) = false) : sg = [] := by
  rcases h with h | h
  · exact h
  · exact absurd h (of_decide_eq_false hb)
theorem str_len {n : Bool} {d t : ByteArray} (hd : d.size ≤ 4294967296) (h : t.data.toList = strI n d.data.toList) : t.size ≤ 4294967300 := by
  rw [← len_data, h]
  unfold strI
  have := len_data d
  split
  · decide
  · split
    · rw [List.length_cons]; omega
    · omega
theorem sig_len (I F : List UInt8) : (sig I F).length ≤ I.length + F.length := by
  unfold sig
  have h1 := tr_len (tl (I ++ F.tail))
  have h2 := tl_len (I ++ F.tail)
  simp only [List.length_append, List.length_tail] at h2
  omega
theorem string_k (n : Bool) (d : ByteArray) (hd : d.size ≤ 4294967296) (N : Nat) (v : Value) (w : World) (hc : w.cell? ⟨N, 1, none⟩ = some v) :
    Calls Tryd.prog 27 #[.agg #[.bool n, .string d]] w fun e w' => ∃ t : ByteArray, e = .returned (.string t) ∧ t.data.toList = strI n d.data.toList ∧ t.size ≤ 4294967300 ∧ Below w.heap.size w w' ∧ w'.cell? ⟨N, 1, none⟩ = some v :=
  (string_c n d hd w).mono fun _ _ ⟨t, he, ht, hb⟩ => ⟨t, he, ht, str_len hd ht, hb, by rw [hb.cell (p := ⟨N, 1, none⟩) (World.block_lt_of_cell? _ _ hc)]; exact hc⟩

set_option maxRecDepth 100000 in
set_option maxHeartbeats 1000000 in
theorem numberKey_c {w0 w : World} (E : Env w0) (hb : Below w0.heap.size w0 w) {sg I F X : List UInt8} {s : ByteArray} (hL : Lit s.data.toList sg I F X) (hs : s.size ≤ 16777216) :
    Calls Tryd.prog 18 #[.string s] w fun e w' => ∃ t : ByteArray, e = .returned (.string t) ∧ KeyOut sg I F X s.size t ∧ Below w.heap.size w w' := by
  have HP := hide (parseDecimal_c E hb hL hs)
  have HL := hide hL
  clear hL hb
  obtain ⟨b, hbb⟩ : ∃ b, decide (sg = [45]) = b := ⟨_, rfl⟩
  rw [hbb] at HP
  have Hbb := hide hbb
  clear hbb
  go_enter Tryd.func18, Tryd.ntmps18
  go_wp2_with fail
  refine HP.out.mono ?_
  rintro e w1 ⟨dg, pn, pd, rfl, hdg, hpo, hb1⟩
  have Hdg := hide hdg
  have Hpo := hide hpo
  have Hb1 := hide hb1
  clear hdg hpo hb1 HP
  have hdgs : dg.size ≤ 16777216 := by
    have h1 := sig_len I F
    have h2 := congrArg List.length HL.out.eq
    simp only [List.length_append, len_data] at h2
    rw [← len_data, Hdg.out]
    omega
  by_cases h0 : sig I F = []
  · have he : dg.toList.isEmpty = true := is_empty (Hdg.out.trans h0)
    have H0 := hide h0
    clear h0
    go_wp2_with fail
    go_ret
    exact ⟨⟨#[48]⟩, rfl, .zero H0.out rfl, Hb1.out.trans ((Below.refl _ _).alloc Hb1.out.size _)⟩
  · have he : dg.toList.isEmpty = false := ne_empty (by rw [Hdg.out]; exact h0)
    have H0 := hide h0
    clear h0
    have hps : pd.size ≤ 4294967296 := by have := (Hpo.out H0.out).sz; omega
    go_upto_if 11 with fail
    go_cut [4] (fun s4 wx => wx = w1.alloc (.cells #[.bool b, .string dg, .bool pn, .string pd] 36) ∧ ∃ sb : ByteArray, s4 = .string sb ∧ sb.size ≤ 1 ∧ Hid (sb.data.toList = sg))
    case first =>
      cases b
      · have HS : Hid (sg = []) := sg_no HL.out.hs Hbb.out
        go_wp2_with fail
        go_meet
        exact ⟨rfl, ⟨#[]⟩, rfl, by decide, HS.out.symm⟩
      · have HS : Hid (sg = [45]) := (of_decide_eq_true Hbb.out : sg = [45])
        go_wp2_with fail
        go_meet
        exact ⟨rfl, ⟨#[45]⟩, rfl, by decide, HS.out.symm⟩
    case rest =>
      obtain ⟨rfl, sb, rfl, hsb, Hsb⟩ := hcut
      have hz1 : ¬ 9223372036854775807 < sb.size + 2 := by omega
      have hz2 : ¬ 9223372036854775807 < sb.size + 2 + dg.size := by omega
      have hz3 : ¬ 9223372036854775807 < sb.size + 2 + dg.size + 1 := by omega
      go_wp2_with fail
      go_region_with (go_at_call 27; refine (string_k pn pd hps w1.heap.size (.string dg) _ ?_).mono ?_; go_simp; rintro e w2 ⟨t, rfl, ht, hts, hb2, hc2⟩; have Ht := hide ht; have Hb2 := hide hb2; have hz4 : ¬ 9223372036854775807 < sb.size + 2 + dg.size + 1 + t.size := (by omega); clear ht hb2)
      all_goals
        go_wp2_with fail
        go_ret
        refine ⟨_, rfl, .key pn pd H0.out (Hpo.out H0.out) ?_, (Hb1.out.trans ((Below.refl _ _).alloc Hb1.out.size _)).trans (((Below.refl _ _).drew.trans Hb2.out).mono (by have := Hb1.out.size; simp; omega))⟩
        simp only [app_data, Hsb.out, Hdg.out, Ht.out, key]
        simp
end Go.Proofs.Qxb6606282aDoor
