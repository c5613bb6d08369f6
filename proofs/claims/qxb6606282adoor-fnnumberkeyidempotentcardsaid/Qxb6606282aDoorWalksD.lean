import Derived.Test.Qxb6606282aDoorWalksC
namespace Go.Proofs.Qxb6606282aDoor
open Go.RowKit

theorem plus_c {w0 w : World} (E : Env w0) (hb : Below w0.heap.size w0 w) {n : Bool} {d : ByteArray} (hc : CI n d.data.toList) (hl2 : d.size ≤ 4294967296) {k : Int} (hk1 : -4294967296 ≤ k) (hk2 : k ≤ 4294967296) :
    Calls Tryd.prog 26 #[.agg #[.bool n, .string d], .int .i64 k] w fun e w' => ∃ (n' : Bool) (t : ByteArray), e = .returned (.agg #[.bool n', .string t]) ∧ PlusOut n d k n' t ∧ Below w.heap.size w w' := by
  by_cases h : d.size ≤ 18
  · exact plus_small E hb hc h hk1 hk2
  · exact plus_big E hb hc (by omega) hl2 hk1 hk2

/-- What ParseDecimal hands back of the point, where there are digits. -/
structure PointOut (I F X : List UInt8) (sz : Nat) (pn : Bool) (pd : ByteArray) : Prop where
  dg : Dg pd.data.toList
  hd : tl pd.data.toList = pd.data.toList
  sz : pd.size ≤ sz + 40
  same : (tl (I ++ F.tail)).length = F.tail.length → strI pn pd.data.toList = strI (parI X.tail).1 (parI X.tail).2

/-- The two new blocks of ParseDecimal: the result's (still zero), and d. -/
structure Db (w w' : World) (b : Bool) (t : ByteArray) : Prop where
  r0 : w'.cell? ⟨w.heap.size, 0, none⟩ = some (.bool false)
  r1 : w'.cell? ⟨w.heap.size, 1, none⟩ = some (.string ⟨#[]⟩)
  r2 : w'.cell? ⟨w.heap.size, 2, none⟩ = some (.bool false)
  r3 : w'.cell? ⟨w.heap.size, 3, none⟩ = some (.string ⟨#[]⟩)
  d0 : w'.cell? ⟨w.heap.size + 1, 0, none⟩ = some (.bool b)
  d1 : w'.cell? ⟨w.heap.size + 1, 1, none⟩ = some (.string t)
  d2 : w'.cell? ⟨w.heap.size + 1, 2, none⟩ = some (.bool false)
  d3 : w'.cell? ⟨w.heap.size + 1, 3, none⟩ = some (.string ⟨#[]⟩)
  fr : ∀ k, w'.frozen? ⟨w.heap.size, k, none⟩ = false
  fd : ∀ k, w'.frozen? ⟨w.heap.size + 1, k, none⟩ = false
  sz : w.heap.size + 2 ≤ w'.heap.size
  bl : Below w.heap.size w w'
theorem Db.start (w : World) (b : Bool) : Db w ((w.alloc (.cells #[.bool false, .string ⟨#[]⟩, .bool false, .string ⟨#[]⟩] 36)).alloc (.cells #[.bool b, .string ⟨#[]⟩, .bool false, .string ⟨#[]⟩] 36)) b ⟨#[]⟩ := by
  refine ⟨by go_simp, by go_simp, by go_simp, by go_simp, by go_simp, by go_simp, by go_simp, by go_simp, fun k => by go_simp, fun k => by go_simp, by simp, ?_⟩
  exact ((Below.refl _ _).alloc (Nat.le_refl _) _).alloc (by simp) _
theorem Db.later {w w' w'' : World} {b : Bool} {t : ByteArray} (h : Db w w' b t) (hb : Below w'.heap.size w' w'') : Db w w'' b t := by
  have hz := h.sz
  refine ⟨?_, ?_, ?_, ?_, ?_, ?_, ?_, ?_, fun k => ?_, fun k => ?_, Nat.le_trans h.sz hb.size, h.bl.trans (hb.mono (by omega))⟩
  · rw [hb.cell (p := ⟨w.heap.size, 0, none⟩) (by show w.heap.size < _; omega)]; exact h.r0
  · rw [hb.cell (p := ⟨w.heap.size, 1, none⟩) (by show w.heap.size < _; omega)]; exact h.r1
  · rw [hb.cell (p := ⟨w.heap.size, 2, none⟩) (by show w.heap.size < _; omega)]; exact h.r2
  · rw [hb.cell (p := ⟨w.heap.size, 3, none⟩) (by show w.heap.size < _; omega)]; exact h.r3
  · rw [hb.cell (p := ⟨w.heap.size + 1, 0, none⟩) (by show w.heap.size + 1 < _; omega)]; exact h.d0
  · rw [hb.cell (p := ⟨w.heap.size + 1, 1, none⟩) (by show w.heap.size + 1 < _; omega)]; exact h.d1
  · rw [hb.cell (p := ⟨w.heap.size + 1, 2, none⟩) (by show w.heap.size + 1 < _; omega)]; exact h.d2
  · rw [hb.cell (p := ⟨w.heap.size + 1, 3, none⟩) (by show w.heap.size + 1 < _; omega)]; exact h.d3
  · rw [hb.frozen (p := ⟨w.heap.size, k, none⟩) (by show w.heap.size < _; omega)]; exact h.fr k
  · rw [hb.frozen (p := ⟨w.heap.size + 1, k, none⟩) (by show w.heap.size + 1 < _; omega)]; exact h.fd k
theorem Db.draws {w w' : World} {b : Bool} {t : ByteArray} (h : Db w w' b t) (k : Nat) : Db w (w'.drewN k) b t := h.later (below_drewN (Below.refl _ _) k)
theorem Db.set {w w' : World} {b : Bool} {t : ByteArray} (h : Db w w' b t) (u : ByteArray) : Db w (w'.setCell ⟨w.heap.size + 1, 1, none⟩ (.string u)) b u := by
  refine ⟨?_, ?_, ?_, ?_, ?_, ?_, ?_, ?_, fun k => ?_, fun k => ?_, by rw [World.size_setCell]; exact h.sz, h.bl.setCell (by simp) _⟩
  · rw [World.cell?_setCell_other _ _ _ _ (by simp)]; exact h.r0
  · rw [World.cell?_setCell_other _ _ _ _ (by simp)]; exact h.r1
  · rw [World.cell?_setCell_other _ _ _ _ (by simp)]; exact h.r2
  · rw [World.cell?_setCell_other _ _ _ _ (by simp)]; exact h.r3
  · rw [World.cell?_setCell_other _ _ _ _ (by simp)]; exact h.d0
  · exact World.cell?_setCell_same _ _ _ h.d1
  · rw [World.cell?_setCell_other _ _ _ _ (by simp)]; exact h.d2
  · rw [World.cell?_setCell_other _ _ _ _ (by simp)]; exact h.d3
  · rw [World.frozen?_setCell]; exact h.fr k
  · rw [World.frozen?_setCell]; exact h.fd k

theorem Db.tail {w w' : World} {b : Bool} {t : ByteArray} (h : Db w w' b t) (n : Bool) (u : ByteArray) :
    let W := (w'.setCell ⟨w.heap.size + 1, 2, none⟩ (.bool n)).setCell ⟨w.heap.size + 1, 3, none⟩ (.string u)
    W.cell? ⟨w.heap.size, 0, none⟩ = some (.bool false) ∧ W.cell? ⟨w.heap.size, 1, none⟩ = some (.string ⟨#[]⟩) ∧ W.cell? ⟨w.heap.size, 2, none⟩ = some (.bool false) ∧ W.cell? ⟨w.heap.size, 3, none⟩ = some (.string ⟨#[]⟩) := by
  refine ⟨?_, ?_, ?_, ?_⟩
  · rw [World.cell?_setCell_other _ _ _ _ (by simp), World.cell?_setCell_other _ _ _ _ (by simp)]; exact h.r0
  · rw [World.cell?_setCell_other _ _ _ _ (by simp), World.cell?_setCell_other _ _ _ _ (by simp)]; exact h.r1
  · rw [World.cell?_setCell_other _ _ _ _ (by simp), World.cell?_setCell_other _ _ _ _ (by simp)]; exact h.r2
  · rw [World.cell?_setCell_other _ _ _ _ (by simp), World.cell?_setCell_other _ _ _ _ (by simp)]; exact h.r3

/-- The result's block after its four cells are written. -/
theorem four {w w' : World} {a c : Bool} {x y : ByteArray} {v0 v1 v2 v3 : Value} (h0 : w'.cell? ⟨w.heap.size, 0, none⟩ = some v0) (h1 : w'.cell? ⟨w.heap.size, 1, none⟩ = some v1) (h2 : w'.cell? ⟨w.heap.size, 2, none⟩ = some v2) (h3 : w'.cell? ⟨w.heap.size, 3, none⟩ = some v3) (hb : Below w.heap.size w w') :
    let W := (((w'.setCell ⟨w.heap.size, 0, none⟩ (.bool a)).setCell ⟨w.heap.size, 1, none⟩ (.string x)).setCell ⟨w.heap.size, 2, none⟩ (.bool c)).setCell ⟨w.heap.size, 3, none⟩ (.string y)
    W.cell? ⟨w.heap.size, 0, none⟩ = some (.bool a) ∧ W.cell? ⟨w.heap.size, 1, none⟩ = some (.string x) ∧ W.cell? ⟨w.heap.size, 2, none⟩ = some (.bool c) ∧ W.cell? ⟨w.heap.size, 3, none⟩ = some (.string y) ∧ Below w.heap.size w W := by
  refine ⟨?_, ?_, ?_, ?_, (((hb.setCell (by simp) _).setCell (by simp) _).setCell (by simp) _).setCell (by simp) _⟩
  · rw [World.cell?_setCell_other _ _ _ _ (by simp), World.cell?_setCell_other _ _ _ _ (by simp), World.cell?_setCell_other _ _ _ _ (by simp)]
    exact World.cell?_setCell_same _ _ _ h0
  · rw [World.cell?_setCell_other _ _ _ _ (by simp), World.cell?_setCell_other _ _ _ _ (by simp)]
    exact World.cell?_setCell_same _ _ _ (by rw [World.cell?_setCell_other _ _ _ _ (by simp)]; exact h1)
  · rw [World.cell?_setCell_other _ _ _ _ (by simp)]
    exact World.cell?_setCell_same _ _ _ (by rw [World.cell?_setCell_other _ _ _ _ (by simp), World.cell?_setCell_other _ _ _ _ (by simp)]; exact h2)
  · exact World.cell?_setCell_same _ _ _ (by rw [World.cell?_setCell_other _ _ _ _ (by simp), World.cell?_setCell_other _ _ _ _ (by simp), World.cell?_setCell_other _ _ _ _ (by simp)]; exact h3)

set_option maxRecDepth 100000 in
set_option maxHeartbeats 1000000 in
theorem parseDecimal_c {w0 w : World} (E : Env w0) (hb : Below w0.heap.size w0 w) {sg I F X : List UInt8} {s : ByteArray} (hL : Lit s.data.toList sg I F X) (hs : s.size ≤ 16777216) :
    Calls Tryd.prog 17 #[.string s] w fun e w' => ∃ (dg : ByteArray) (pn : Bool) (pd : ByteArray), e = .returned (.agg #[.bool (decide (sg = [45])), .string dg, .bool pn, .string pd]) ∧ dg.data.toList = sig I F ∧ (sig I F ≠ [] → PointOut I F X s.size pn pd) ∧ Below w.heap.size w w' := by
  have HL := hide hL
  have Hb := hide hb
  clear hL hb
  obtain ⟨hu1, hu2⟩ := unsigned_lit HL.out
  obtain ⟨b, hbb⟩ : ∃ b, decide (sg = [45]) = b := ⟨_, rfl⟩
  rw [hbb] at hu2 ⊢
  have hC : Hid (∀ w, Calls Tryd.prog 20 #[.string s, .string ⟨#[45]⟩] w fun e w' => ∃ t : ByteArray, e = .returned (.tuple #[.string t, .bool b]) ∧ t.data.toList = I ++ (F ++ X) ∧ w' = w) := by
    intro w
    have hx := cutPrefix_c s w
    rw [hu2, hu1] at hx
    exact hx
  have Hu1 := hide hu1
  have Hu2 := hide hu2
  have Hbb := hide hbb
  clear hu1 hu2 hbb
  go_enter Tryd.func17, Tryd.ntmps17
  go_wp2_with fail
  refine (hC.out _).mono ?_
  rintro e w' ⟨u, rfl, hu, hw⟩
  subst hw
  have Hu := hide hu
  clear hu
  cases b
  · have Hv : Hid (s.data.toList = I ++ (F ++ X)) := by rw [← Hu1.out, trim_no Hu2.out]; exact rfl
    have hvs : s.size ≤ 16777216 := by
      have h1 := congrArg List.length Hv.out
      have h2 := congrArg List.length HL.out.eq
      rw [len_data] at h1 h2
      rw [h2] at hs
      rw [h1]
      simp only [List.length_append] at hs ⊢
      omega
    have hD := hide (Db.start w false)
    go_wp2_with fail
    refine (toLower_c s (by omega) (by rw [Hv.out]; exact ascii_lit HL.out) _).mono ?_
    rintro e w1 ⟨t1, rfl, ht1, hb1⟩
    have hD1 := hide (hD.out.later hb1)
    have Ht1 : Hid (t1.data.toList = (I ++ F) ++ lowX X) := by rw [ht1, Hv.out]; exact lower_lit HL.out.hI HL.out.hF HL.out.hX
    have h1s : t1.size ≤ 16777216 := by
      have h1 := congrArg List.length ht1
      rw [len_data] at h1
      unfold Lib.toLowerA at h1
      rw [List.length_map, len_data] at h1
      omega
    clear ht1 hb1
    obtain ⟨m1, hm1⟩ := E.max (Hb.out.trans (hD1.out.bl.mono Hb.out.size))
    have Hm1 := hide hm1
    clear hm1
    go_wp2_with fail
    refine (cut_c 101 t1 (by omega) m1 _ Hm1.out).mono ?_
    rintro e w2 ⟨a1, b1, k1, rfl, ha1, hb1, n1, rfl⟩
    have Ha1 : Hid (a1.data.toList = I ++ F) := by rw [ha1, Ht1.out]; exact (cut_e HL.out.hI HL.out.hF HL.out.hX).1
    have Hb1 : Hid (b1.data.toList = X.tail) := by rw [hb1, Ht1.out]; exact (cut_e HL.out.hI HL.out.hF HL.out.hX).2
    clear ha1 hb1
    have Hlen : Hid (I.length + F.length + X.length ≤ 16777216) := by
      have h1 := congrArg List.length Hv.out
      rw [len_data] at h1
      simp only [List.length_append] at h1
      show _ ≤ _
      omega
    have ha1s : a1.size ≤ 16777216 := by
      rw [← len_data, Ha1.out, List.length_append]; have := Hlen.out; omega
    go_wp2_with fail
    refine (cut_c 46 a1 (by omega) m1 (w1.drewN n1) (by exact Hm1.out)).mono ?_
    rintro e w2 ⟨a2, b2, k2, rfl, ha2, hb2, n2, rfl⟩
    have Ha2 : Hid (a2.data.toList = I) := by rw [ha2, Ha1.out]; exact (cut_dot HL.out.hI HL.out.hF).1
    have Hb2 : Hid (b2.data.toList = F.tail) := by rw [hb2, Ha1.out]; exact (cut_dot HL.out.hI HL.out.hF).2
    clear ha2 hb2
    have ha2s : a2.size ≤ 16777216 := by
      rw [← len_data, Ha2.out]; have := Hlen.out; omega
    have hb2s : b2.size ≤ 16777216 := by
      rw [← len_data, Hb2.out, List.length_tail]; have := Hlen.out; omega
    go_wp2_with fail
    refine (trimLeft_c _ _).mono ?_
    rintro e w2 ⟨t3, rfl, ht3, hw⟩
    obtain rfl := hw.symm
    clear hw
    have Ht3 : Hid (t3.data.toList = tl (I ++ F.tail)) := by rw [ht3, app_data, Ha2.out, Hb2.out]; exact rfl
    have h3s : t3.size ≤ 33554432 := by
      have h1 := tl_len (a2 ++ b2).data.toList
      rw [← ht3, app_data, List.length_append, len_data, len_data, len_data] at h1
      omega
    clear ht3
    go_wp2_with fail
    refine (trimRight_c t3 (by omega) _).mono ?_
    rintro e w2 ⟨t4, rfl, ht4, hw⟩
    obtain rfl := hw.symm
    clear hw
    have Ht4 : Hid (t4.data.toList = sig I F) := by rw [ht4, Ht3.out]; exact rfl
    clear ht4
    obtain ⟨r0, r1, r2, r3, d0, d1, d2, d3, fr, fd, hsz, _⟩ := hD1.out
    have hD5 := hide ((hD1.out.draws (n1 + n2)).set t4)
    by_cases h0 : sig I F = []
    · have he : t4.toList.isEmpty = true := is_empty (Ht4.out.trans h0)
      have H0 := hide h0
      clear h0
      obtain ⟨q0, q1, q2, q3, q4⟩ := four (w := w) (a := false) (x := t4) (c := false) (y := ⟨#[]⟩) (hD5.out.r0) (hD5.out.r1) (hD5.out.r2) (hD5.out.r3) hD5.out.bl
      have Q0 := hide q0
      have Q1 := hide q1
      have Q2 := hide q2
      have Q3 := hide q3
      clear q0 q1 q2 q3
      go_wp2_with fail
      refine bodyPost_ret (v := .agg #[.bool false, .string t4, .bool false, .string ⟨#[]⟩]) (by simp [results, Tryd.results17, go_sem, Q0.out, Q1.out, Q2.out, Q3.out]) rfl ⟨t4, false, ⟨#[]⟩, rfl, Ht4.out, fun hn => absurd H0.out hn, q4⟩
    · have he : t4.toList.isEmpty = false := ne_empty (by rw [Ht4.out]; exact h0)
      have H0 := hide h0
      clear h0
      go_wp2_with fail
      refine (parseInteger_c b1 _).mono ?_
      rintro e w5 ⟨n5, t5, rfl, hp5, hb5⟩
      have hD6 := hide (hD5.out.later hb5)
      obtain ⟨xs, xd, hxs, hxd, hxx⟩ := tailX_form HL.out.hX
      have hp5' : (n5, t5.data.toList) = parI X.tail := by rw [← Hb1.out]; exact hp5
      have hCI := parI_CI hxs hxd
      rw [← hxx, ← hp5'] at hCI
      have Hp5 := hide hp5'
      have HC5 := hide hCI.1
      have h5s : t5.size ≤ s.size := by
        have h1 := hCI.2
        simp only [len_data] at h1
        have h2 := congrArg List.length hxx
        have h3 := congrArg List.length HL.out.eq
        rw [len_data] at h3
        rw [List.length_tail] at h2
        simp only [List.length_append] at h2 h3
        omega
      clear hp5 hp5' hb5 hCI hxs hxd hxx
      go_wp2_with fail
      refine (plus_c E (Hb.out.trans (hD6.out.bl.mono Hb.out.size)) (k := (t3.size : Int) - b2.size) HC5.out (by omega) (by omega) (by omega)).mono ?_
      rintro e w6 ⟨n6, t6, rfl, hp6, hb6⟩
      have hD7 := hide (hD6.out.later hb6)
      have Hp6 := hide hp6
      clear hp6 hb6
      obtain ⟨r0, r1, r2, r3, d0, d1, d2, d3, fr, fd, hsz, _⟩ := hD7.out
      obtain ⟨g0, g1, g2, g3⟩ := hD7.out.tail n6 t6
      obtain ⟨q0, q1, q2, q3, q4⟩ := four (w := w) (a := false) (x := t4) (c := n6) (y := t6) g0 g1 g2 g3 ((hD7.out.bl.setCell (p := ⟨w.heap.size + 1, 2, none⟩) (by simp) (.bool n6)).setCell (p := ⟨w.heap.size + 1, 3, none⟩) (by simp) (.string t6))
      have Q0 := hide q0
      have Q1 := hide q1
      have Q2 := hide q2
      have Q3 := hide q3
      clear q0 q1 q2 q3
      go_wp2_with fail
      refine bodyPost_ret (v := .agg #[.bool false, .string t4, .bool n6, .string t6]) (by simp [results, Tryd.results17, go_sem, Q0.out, Q1.out, Q2.out, Q3.out]) rfl ⟨t4, n6, t6, rfl, Ht4.out, fun _ => ⟨Hp6.out.dg, Hp6.out.hd, ?_, fun h => ?_⟩, q4⟩
      · have := Hp6.out.sz; omega
      · have h1 : strI n6 t6.data.toList = strI n5 t5.data.toList := Hp6.out.same (by
          rw [← Ht3.out, ← Hb2.out, len_data, len_data] at h
          omega)
        rw [h1, ← Hp5.out]
  · have Hv : Hid (u.data.toList = I ++ (F ++ X)) := Hu.out
    have hvs : u.size ≤ 16777216 := by
      have h1 := congrArg List.length Hv.out
      have h2 := congrArg List.length HL.out.eq
      rw [len_data] at h1 h2
      rw [h2] at hs
      rw [h1]
      simp only [List.length_append] at hs ⊢
      omega
    have hD := hide (Db.start w true)
    go_wp2_with fail
    refine (toLower_c u (by omega) (by rw [Hv.out]; exact ascii_lit HL.out) _).mono ?_
    rintro e w1 ⟨t1, rfl, ht1, hb1⟩
    have hD1 := hide (hD.out.later hb1)
    have Ht1 : Hid (t1.data.toList = (I ++ F) ++ lowX X) := by rw [ht1, Hv.out]; exact lower_lit HL.out.hI HL.out.hF HL.out.hX
    have h1s : t1.size ≤ 16777216 := by
      have h1 := congrArg List.length ht1
      rw [len_data] at h1
      unfold Lib.toLowerA at h1
      rw [List.length_map, len_data] at h1
      omega
    clear ht1 hb1
    obtain ⟨m1, hm1⟩ := E.max (Hb.out.trans (hD1.out.bl.mono Hb.out.size))
    have Hm1 := hide hm1
    clear hm1
    go_wp2_with fail
    refine (cut_c 101 t1 (by omega) m1 _ Hm1.out).mono ?_
    rintro e w2 ⟨a1, b1, k1, rfl, ha1, hb1, n1, rfl⟩
    have Ha1 : Hid (a1.data.toList = I ++ F) := by rw [ha1, Ht1.out]; exact (cut_e HL.out.hI HL.out.hF HL.out.hX).1
    have Hb1 : Hid (b1.data.toList = X.tail) := by rw [hb1, Ht1.out]; exact (cut_e HL.out.hI HL.out.hF HL.out.hX).2
    clear ha1 hb1
    have Hlen : Hid (I.length + F.length + X.length ≤ 16777216) := by
      have h1 := congrArg List.length Hv.out
      rw [len_data] at h1
      simp only [List.length_append] at h1
      show _ ≤ _
      omega
    have ha1s : a1.size ≤ 16777216 := by
      rw [← len_data, Ha1.out, List.length_append]; have := Hlen.out; omega
    go_wp2_with fail
    refine (cut_c 46 a1 (by omega) m1 (w1.drewN n1) (by exact Hm1.out)).mono ?_
    rintro e w2 ⟨a2, b2, k2, rfl, ha2, hb2, n2, rfl⟩
    have Ha2 : Hid (a2.data.toList = I) := by rw [ha2, Ha1.out]; exact (cut_dot HL.out.hI HL.out.hF).1
    have Hb2 : Hid (b2.data.toList = F.tail) := by rw [hb2, Ha1.out]; exact (cut_dot HL.out.hI HL.out.hF).2
    clear ha2 hb2
    have ha2s : a2.size ≤ 16777216 := by
      rw [← len_data, Ha2.out]; have := Hlen.out; omega
    have hb2s : b2.size ≤ 16777216 := by
      rw [← len_data, Hb2.out, List.length_tail]; have := Hlen.out; omega
    go_wp2_with fail
    refine (trimLeft_c _ _).mono ?_
    rintro e w2 ⟨t3, rfl, ht3, hw⟩
    obtain rfl := hw.symm
    clear hw
    have Ht3 : Hid (t3.data.toList = tl (I ++ F.tail)) := by rw [ht3, app_data, Ha2.out, Hb2.out]; exact rfl
    have h3s : t3.size ≤ 33554432 := by
      have h1 := tl_len (a2 ++ b2).data.toList
      rw [← ht3, app_data, List.length_append, len_data, len_data, len_data] at h1
      omega
    clear ht3
    go_wp2_with fail
    refine (trimRight_c t3 (by omega) _).mono ?_
    rintro e w2 ⟨t4, rfl, ht4, hw⟩
    obtain rfl := hw.symm
    clear hw
    have Ht4 : Hid (t4.data.toList = sig I F) := by rw [ht4, Ht3.out]; exact rfl
    clear ht4
    obtain ⟨r0, r1, r2, r3, d0, d1, d2, d3, fr, fd, hsz, _⟩ := hD1.out
    have hD5 := hide ((hD1.out.draws (n1 + n2)).set t4)
    by_cases h0 : sig I F = []
    · have he : t4.toList.isEmpty = true := is_empty (Ht4.out.trans h0)
      have H0 := hide h0
      clear h0
      obtain ⟨q0, q1, q2, q3, q4⟩ := four (w := w) (a := true) (x := t4) (c := false) (y := ⟨#[]⟩) (hD5.out.r0) (hD5.out.r1) (hD5.out.r2) (hD5.out.r3) hD5.out.bl
      have Q0 := hide q0
      have Q1 := hide q1
      have Q2 := hide q2
      have Q3 := hide q3
      clear q0 q1 q2 q3
      go_wp2_with fail
      refine bodyPost_ret (v := .agg #[.bool true, .string t4, .bool false, .string ⟨#[]⟩]) (by simp [results, Tryd.results17, go_sem, Q0.out, Q1.out, Q2.out, Q3.out]) rfl ⟨t4, false, ⟨#[]⟩, rfl, Ht4.out, fun hn => absurd H0.out hn, q4⟩
    · have he : t4.toList.isEmpty = false := ne_empty (by rw [Ht4.out]; exact h0)
      have H0 := hide h0
      clear h0
      go_wp2_with fail
      refine (parseInteger_c b1 _).mono ?_
      rintro e w5 ⟨n5, t5, rfl, hp5, hb5⟩
      have hD6 := hide (hD5.out.later hb5)
      obtain ⟨xs, xd, hxs, hxd, hxx⟩ := tailX_form HL.out.hX
      have hp5' : (n5, t5.data.toList) = parI X.tail := by rw [← Hb1.out]; exact hp5
      have hCI := parI_CI hxs hxd
      rw [← hxx, ← hp5'] at hCI
      have Hp5 := hide hp5'
      have HC5 := hide hCI.1
      have h5s : t5.size ≤ s.size := by
        have h1 := hCI.2
        simp only [len_data] at h1
        have h2 := congrArg List.length hxx
        have h3 := congrArg List.length HL.out.eq
        rw [len_data] at h3
        rw [List.length_tail] at h2
        simp only [List.length_append] at h2 h3
        omega
      clear hp5 hp5' hb5 hCI hxs hxd hxx
      go_wp2_with fail
      refine (plus_c E (Hb.out.trans (hD6.out.bl.mono Hb.out.size)) (k := (t3.size : Int) - b2.size) HC5.out (by omega) (by omega) (by omega)).mono ?_
      rintro e w6 ⟨n6, t6, rfl, hp6, hb6⟩
      have hD7 := hide (hD6.out.later hb6)
      have Hp6 := hide hp6
      clear hp6 hb6
      obtain ⟨r0, r1, r2, r3, d0, d1, d2, d3, fr, fd, hsz, _⟩ := hD7.out
      obtain ⟨g0, g1, g2, g3⟩ := hD7.out.tail n6 t6
      obtain ⟨q0, q1, q2, q3, q4⟩ := four (w := w) (a := true) (x := t4) (c := n6) (y := t6) g0 g1 g2 g3 ((hD7.out.bl.setCell (p := ⟨w.heap.size + 1, 2, none⟩) (by simp) (.bool n6)).setCell (p := ⟨w.heap.size + 1, 3, none⟩) (by simp) (.string t6))
      have Q0 := hide q0
      have Q1 := hide q1
      have Q2 := hide q2
      have Q3 := hide q3
      clear q0 q1 q2 q3
      go_wp2_with fail
      refine bodyPost_ret (v := .agg #[.bool true, .string t4, .bool n6, .string t6]) (by simp [results, Tryd.results17, go_sem, Q0.out, Q1.out, Q2.out, Q3.out]) rfl ⟨t4, n6, t6, rfl, Ht4.out, fun _ => ⟨Hp6.out.dg, Hp6.out.hd, ?_, fun h => ?_⟩, q4⟩
      · have := Hp6.out.sz; omega
      · have h1 : strI n6 t6.data.toList = strI n5 t5.data.toList := Hp6.out.same (by
          rw [← Ht3.out, ← Hb2.out, len_data, len_data] at h
          omega)
        rw [h1, ← Hp5.out]
end Go.Proofs.Qxb6606282aDoor
