import Derived.Test.Qxb6606282aDoorWalksA
import Derived.Lib.SmallJoins
import Derived.Deep.RegionWith
namespace Go.Proofs.Qxb6606282aDoor
open Go.RowKit

/-- What the calls lean on: FormatInt answers its numeral in every later world; the variable MaxLen holds some number. -/
structure Env (w0 : World) : Prop where
  fmt : ∀ (w : World), Below w0.heap.size w0 w → ∀ n : Int, -9223372036854775808 ≤ n → n ≤ 9223372036854775807 → Calls Tryd.prog 45 #[.int .i64 n, .int .i64 10] w fun e w' => ∃ t : ByteArray, e = .returned (.string t) ∧ t.data.toList = Lib.itoa n ∧ Below w.heap.size w w'
  mx : ∃ m : Int, w0.cell? ⟨0, 0, none⟩ = some (.int .i64 m)
theorem Env.max {w0 w : World} (E : Env w0) (hb : Below w0.heap.size w0 w) : ∃ m : Int, w.cell? ⟨0, 0, none⟩ = some (.int .i64 m) := by
  obtain ⟨m, hm⟩ := E.mx
  exact ⟨m, by rw [hb.cell (p := ⟨0, 0, none⟩) (World.block_lt_of_cell? _ _ hm)]; exact hm⟩

theorem parseInt_c (s : ByteArray) (hs : s.size ≤ 9223372036854775806) (v : Int) (h : Lib.parseIntB 64 s.data.toList = .ok v) (w : World) :
    Calls Tryd.prog 44 #[.string s, .int .i64 10, .int .i64 64] w fun e w' => e = .returned (.tuple #[.int .i64 v, .nilIface]) ∧ Below w.heap.size w w' :=
  (Tryd.strconv_ParseInt_10_at64_ok s hs v h w).mono fun _ _ ⟨he, hw⟩ => ⟨he, by
    rcases hw with rfl | ⟨t, rfl⟩
    · exact Below.refl _ _
    · exact Joins.below_bytesWorld _ w 5 t (Nat.le_refl _)⟩

/-- What 'plus' hands back. -/
structure PlusOut (n : Bool) (d : ByteArray) (k : Int) (n' : Bool) (t : ByteArray) : Prop where
  dg : Dg t.data.toList
  hd : tl t.data.toList = t.data.toList
  sz : t.size ≤ d.size + 40
  same : k = 0 → strI n' t.data.toList = strI n d.data.toList

/-- Two new blocks of an integer each, and what stays of them. -/
theorem two_blocks {w w' : World} {n : Bool} {d : ByteArray} (hb : Below (w.heap.size + 2) ((w.alloc (.cells #[.bool n, .string d] 34)).alloc (.cells #[.bool false, .string ⟨#[]⟩] 34)) w') :
    w'.cell? ⟨w.heap.size + 1, 0, none⟩ = some (.bool false) ∧ w'.cell? ⟨w.heap.size + 1, 1, none⟩ = some (.string ⟨#[]⟩) ∧ w'.frozen? ⟨w.heap.size + 1, 0, none⟩ = false ∧ w'.frozen? ⟨w.heap.size + 1, 1, none⟩ = false ∧
    w'.cell? ⟨w.heap.size, 0, none⟩ = some (.bool n) ∧ w'.cell? ⟨w.heap.size, 1, none⟩ = some (.string d) ∧ w.heap.size + 2 ≤ w'.heap.size ∧ Below w.heap.size w w' := by
  have hs := hb.size
  refine ⟨?_, ?_, ?_, ?_, ?_, ?_, by simpa using hs, ?_⟩
  · rw [hb.cell (p := ⟨w.heap.size + 1, 0, none⟩) (by simp)]; go_simp
  · rw [hb.cell (p := ⟨w.heap.size + 1, 1, none⟩) (by simp)]; go_simp
  · rw [hb.frozen (p := ⟨w.heap.size + 1, 0, none⟩) (by simp)]; go_simp
  · rw [hb.frozen (p := ⟨w.heap.size + 1, 1, none⟩) (by simp)]; go_simp
  · rw [hb.cell (p := ⟨w.heap.size, 0, none⟩) (by simp)]; go_simp
  · rw [hb.cell (p := ⟨w.heap.size, 1, none⟩) (by simp)]; go_simp
  · exact (((Below.refl _ _).alloc (Nat.le_refl _) _).alloc (by simp) _).trans (hb.mono (by omega))

set_option maxRecDepth 100000 in
set_option maxHeartbeats 400000 in
theorem plus_small {w0 w : World} (E : Env w0) (hb : Below w0.heap.size w0 w) {n : Bool} {d : ByteArray} (hc : CI n d.data.toList) (hl : d.size ≤ 18) {k : Int} (hk1 : -4294967296 ≤ k) (hk2 : k ≤ 4294967296) :
    Calls Tryd.prog 26 #[.agg #[.bool n, .string d], .int .i64 k] w fun e w' => ∃ (n' : Bool) (t : ByteArray), e = .returned (.agg #[.bool n', .string t]) ∧ PlusOut n d k n' t ∧ Below w.heap.size w w' := by
  have hl' : (d.size : Int) ≤ 18 := by omega
  obtain ⟨v, hv1, hv2, hv3, hv4⟩ := round_trip hc (by rw [len_data]; exact hl)
  have Hv1 := hide hv1
  have Hv2 := hide hv2
  have HC := hide hc
  have Hb := hide hb
  clear hv1 hv2 hc hb
  go_enter Tryd.func26, Tryd.ntmps26
  go_wp2_with fail
  refine (string_c n d (by omega) _).mono ?_
  rintro e w1 ⟨t, rfl, ht, hb1⟩
  have Ht := hide ht
  have hB1 : Below (w.heap.size + 2) ((w.alloc (.cells #[.bool n, .string d] 34)).alloc (.cells #[.bool false, .string ⟨#[]⟩] 34)) w1 := hb1.mono (by simp)
  have HB1 := hide hB1
  clear ht hb1 hB1
  have hts : t.size ≤ 19 := by
    rw [← len_data, Ht.out]
    unfold strI
    have := len_data d
    split
    · simp
    · split <;> simp <;> omega
  go_wp2_with fail
  refine (parseInt_c t (by omega) v (by rw [Ht.out]; exact Hv1.out) _).mono ?_
  rintro e w2 ⟨rfl, hb2⟩
  have HB2 : Hid (Below (w.heap.size + 2) ((w.alloc (.cells #[.bool n, .string d] 34)).alloc (.cells #[.bool false, .string ⟨#[]⟩] 34)) w2) :=
    HB1.out.trans (hb2.mono (two_blocks HB1.out).2.2.2.2.2.2.1)
  clear hb2
  go_wp2_with fail
  refine (E.fmt _ (Hb.out.trans ((two_blocks HB2.out).2.2.2.2.2.2.2.mono Hb.out.size)) (v + k) (by omega) (by omega)).mono ?_
  rintro e w3 ⟨u, rfl, hu, hb3⟩
  have Hu := hide hu
  have HB3 : Hid (Below (w.heap.size + 2) ((w.alloc (.cells #[.bool n, .string d] 34)).alloc (.cells #[.bool false, .string ⟨#[]⟩] 34)) w3) :=
    HB2.out.trans (hb3.mono (two_blocks HB2.out).2.2.2.2.2.2.1)
  clear hu hb3
  go_wp2_with fail
  refine (parseInteger_c u _).mono ?_
  rintro e w4 ⟨n', t', rfl, hp, hb4⟩
  have Hp := hide hp
  have HB4 : Hid (Below (w.heap.size + 2) ((w.alloc (.cells #[.bool n, .string d] 34)).alloc (.cells #[.bool false, .string ⟨#[]⟩] 34)) w4) :=
    HB3.out.trans (hb4.mono (two_blocks HB3.out).2.2.2.2.2.2.1)
  clear hp hb4
  obtain ⟨g1, g2, g3, g4, _, _, g5, g6⟩ := two_blocks HB4.out
  have G6 := hide g6
  clear g6
  have hout : Hid (PlusOut n d k n' t') := by
    obtain ⟨s, x, hs, hx, hi⟩ := itoa_form (v + k)
    have hpe : (n', t'.data.toList) = parI (s ++ x) := by rw [← hi, ← Hu.out]; exact Hp.out
    have h1 := parI_CI hs hx
    rw [← hpe] at h1
    refine ⟨h1.1.dg, h1.1.hd, ?_, fun h0 => ?_⟩
    · have h2 := h1.2
      have h3 := Lib.itoa_length_le (v + k) (by omega) (by omega)
      rw [hi, List.length_append] at h3
      simp only [len_data] at h2
      omega
    · have h5 : (n', t'.data.toList) = parI (strI n d.data.toList) := by
        rw [← Hv2.out]
        have : v + k = v := by omega
        rw [this] at Hu
        rw [← Hu.out]; exact Hp.out
      rw [parI_str HC.out] at h5
      simp only [Prod.mk.injEq] at h5
      rw [h5.1, h5.2]
  have hc0 : ((w4.setCell ⟨w.heap.size + 1, 0, none⟩ (.bool n')).setCell ⟨w.heap.size + 1, 1, none⟩ (.string t')).cell? ⟨w.heap.size + 1, 0, none⟩ = some (.bool n') := by
    rw [World.cell?_setCell_other _ _ _ _ (by simp)]; exact World.cell?_setCell_same _ _ _ g1
  have hc1 : ((w4.setCell ⟨w.heap.size + 1, 0, none⟩ (.bool n')).setCell ⟨w.heap.size + 1, 1, none⟩ (.string t')).cell? ⟨w.heap.size + 1, 1, none⟩ = some (.string t') :=
    World.cell?_setCell_same _ _ _ (by rw [World.cell?_setCell_other _ _ _ _ (by simp)]; exact g2)
  have Hc0 := hide hc0
  have Hc1 := hide hc1
  clear hc0 hc1
  go_wp2
  refine bodyPost_ret (v := .agg #[.bool n', .string t']) (by simp [results, Tryd.results26, go_sem, Hc0.out, Hc1.out]) rfl ⟨n', t', rfl, hout.out, ?_⟩
  exact (G6.out.setCell (by simp) _).setCell (by simp) _
end Go.Proofs.Qxb6606282aDoor
