import Derived.Test.Qxb6615582aGreatFmtLc
namespace Go.Proofs.Qxb6615582aGreatFmt
open Go.RowKit
attribute [local go_sem] Go.wp_at_zero Go.wp_at_succ

theorem Gw.up5 {B B' : Nat} {w : World} {ae ab aq abq : Addr} (h : Gw B w ae ab aq abq) (hB : B ≤ B') : Gw B' w ae ab aq abq := by
  obtain ⟨a1, a2, a3, a4⟩ := h.la
  exact ⟨h.e0, h.e8, h.e1, h.e2, h.ne, h.neq, h.tabs, h.h5, Nat.le_trans h.lt hB, by omega, by omega, by omega, by omega⟩
theorem Kp.up5 {B2 : Nat} {a b c : World} (h : Kp (fun j => B2 ≤ j) a b) {F : Nat → Prop} (k : Kp F b c) (hF : ∀ j, F j → B2 ≤ j) : Kp (fun j => B2 ≤ j) a c := h.trans (k.mono (fun j _ e => .inl (hF j e)))
theorem Rdr.fa5 {B : Nat} {w : World} {T : Nat → Nat} {nB : Nat} {sb : Option Addr} {cols : Value} {x : Bs} {ln N : Nat} {ae : Addr} (h : Rdr B w T nB sb cols x ln N ae) : ∀ j, Fa T j → B ≤ j := fun j hj => by
  rcases Nat.lt_or_ge j B with e | e
  · exact absurd (h.low j e) hj
  · exact e
def L5Post (w : World) (e : Ending) (w' : World) : Prop := e = .returned (.bool true) ∧ Kp (fun _ => False) w w'
/-- The bounds that the law tests. -/
def Bnd5 (D : Bs) (cs : List ByteArray) : Prop := D.length ≤ 1048576 ∧ cs.length ≤ 1048576 ∧ ∀ s ∈ cs, s.size ≤ 1048576
theorem nls_body (D : Bs) : nls (body D) ≤ nls D := by
  unfold body nls
  split
  · exact (List.drop_sublist 3 D).count_le 10
  · exact Nat.le_refl _
theorem nls_take {D : Bs} {i : Nat} {c : UInt8} (h : D[i]? = some c) : nls (D.take (i + 1)) = nls (D.take i) + if c = 10 then 1 else 0 := by
  obtain ⟨h1, h2⟩ := List.getElem?_eq_some_iff.1 h
  unfold nls
  rw [List.take_succ_eq_append_getElem h1, List.count_append, h2]
  congr 1
  by_cases e : c = 10
  · simp [e]
  · simp [e]
/-- Two readers over one text, apart, both before x. -/
structure Two (w6 : World) (B1 B2 n1 n2 : Nat) (sb : Option Addr) (cols : Value) (N : Nat) (ae : Addr) (t x : Bs) (k ln last L : Nat) (wr : World) : Prop where
  ex : ∃ T1 T2, Rdr B1 wr T1 n1 sb cols x ln (N + 2 * k) ae ∧ Rdr B2 wr T2 n2 sb cols x ln (N + 2 * k) ae ∧ (∀ j, T1 j ≠ 0 → T2 j = 0) ∧ T1 n2 = 0 ∧ T2 n1 = 0
  kp : Kp (fun j => B1 ≤ j) w6 wr
  nl : ln + nls x ≤ L + 1
  last : x ≠ [] → last < ln
  len : x.length ≤ t.length
  sb : ∀ b o, sb = some ⟨b, o, none⟩ → b < B1
  le : B1 ≤ B2
  sz : B2 ≤ wr.heap.size
/-- What one round leaves of the two readers. -/
theorem two_next {w6 wr w7 W w8 wx : World} {B1 B2 n1 n2 : Nat} {sb : Option Addr} {cols : Value} {N : Nat} {ae : Addr} {t x : Bs} {k ln last L : Nat} {T1 T2 T1' T2' : Nat → Nat} {X : Out × Nat}
    (h : Two w6 B1 B2 n1 n2 sb cols N ae t x k ln last L wr) (r1 : Rdr B1 wr T1 n1 sb cols x ln (N + 2 * k) ae) (r2 : Rdr B2 wr T2 n2 sb cols x ln (N + 2 * k) ae) (hd : ∀ j, T1 j ≠ 0 → T2 j = 0) (h12 : T1 n2 = 0) (h21 : T2 n1 = 0)
    (q2 : Rdr B2 w7 T2' n2 sb cols X.1.rest X.1.ln (N + 2 * k + 2) ae) (k2 : Kp (Fa T2) wr w7) (o2 : Old wr T2 T2') (hW : Kp (fun _ => False) w7 W) (q1 : Rdr B1 w8 T1' n1 sb cols X.1.rest X.1.ln (N + 2 * k + 2) ae) (k1 : Kp (Fa T1) W w8) (o1 : Old W T1 T1') (hx : Kp (fun _ => False) w8 wx) (hb : Rcb X x ln) :
    Two w6 B1 B2 n1 n2 sb cols N ae t X.1.rest (k + 1) X.1.ln X.2 L wx := by
  have e : N + 2 * (k + 1) = N + 2 * k + 2 := by omega
  have s1 := k2.size
  have s2 := hW.size
  have hT : ∀ j, T1 j ≠ 0 → T2' j = 0 := fun j hj => by
    have hlt : j < wr.heap.size := by
      rcases Nat.lt_or_ge j wr.heap.size with e | e
      · exact e
      · exact absurd (r1.tlt e) hj
    rw [o2 j hlt]; exact hd j hj
  refine ⟨⟨T1', T2', ?_, ?_, fun j hj => ?_, ?_, ?_⟩, ?_, ?_, hb.up, Nat.le_trans hb.len h.len, h.sb, h.le, ?_⟩
  · rw [e]; exact q1.quiet hx
  · rw [e]
    exact ((q2.quiet hW).kept k1 (fun j hj => hT j hj) (fun hj => hj h12) (fun b o eb hj => hj (r1.low b (h.sb b o eb)))).quiet hx
  · rcases Nat.lt_or_ge j W.heap.size with e | e
    · rw [o1 j e] at hj; exact hT j hj
    · exact q2.tlt (Nat.le_trans s2 e)
  · rw [o1 n2 (by have := r2.at_; omega)]; exact h12
  · rw [o2 n1 r1.at_]; exact h21
  · have a1 := (h.kp.up5 k2 (fun j hj => Nat.le_trans h.le (r2.fa5 j hj))).up5 hW (fun _ e => e.elim)
    exact (a1.up5 k1 r1.fa5).up5 hx (fun _ e => e.elim)
  · rw [hb.nl]; exact h.nl
  · have := k1.size; have := hx.size; have := h.sz; omega
set_option maxRecDepth 100000 in
set_option maxHeartbeats 8000000 in
theorem law5_c {B : Nat} {w : World} {F : Go.Stop.Interp} (hF : F.answers w.tape) {dao : Option Addr} {D : Bs} {dc : Nat} (hD : Tx w dao D) (hdn : dao = none → dc = 0) (hl : D.length ≤ 9223372036854775807)
    {co : Option Addr} {cc' : Nat} {cs : List ByteArray} (hS : Sv w co cs) (hcn : co = none → cc' = 0) (hcs : cs.length ≤ 9223372036854775807) (hz : ∀ s ∈ cs, s.size ≤ 9223372036854775807) {ae ab aq abq : Addr} (hg : Gw B w ae ab aq abq) (hB : B ≤ w.heap.size) :
    Calls Tryz.prog 5 #[.slice dao D.length dc, .slice co cs.length cc'] w (L5Post w) := by
  have H17 : Hid (Calls Tryz.prog 23 #[.slice dao D.length dc, .slice co cs.length cc'] w fun e w' => w' = w ∧ ∃ b, e = .returned (.bool b) ∧ ((!b) = false → Bnd5 D cs)) := (bytes23_c hS hl hcs hz).mono (by
    rintro e w' ⟨h1, rfl | ⟨rfl, h2⟩⟩
    · exact ⟨h1, false, rfl, fun e => (by cases e)⟩
    · exact ⟨h1, true, rfl, fun _ => h2⟩)
  have H8 : Hid (Bnd5 D cs → Calls Tryz.prog 8 #[.int .i64 D.length, .slice co cs.length cc'] w fun e w' => w' = w ∧ ∃ c : Int, e = .returned (.int .i64 c)) := fun h => count_c hS h.1 h.2.1 h.2.2
  have H9 : Hid (Bnd5 D cs → Calls Tryz.prog 9 #[.slice dao D.length dc] w fun e w' => ∃ ao c, e = .returned (.slice ao D.length c) ∧ Tx w' ao D ∧ D.length ≤ c ∧ c ≤ 9223372036854775807 ∧ Nwp w w' ao ∧ Kp (fun _ => False) w w') := fun h => cloneB_u hD h.1 hdn
  have H10 : Hid (Bnd5 D cs → ∀ W, Kp (fun _ => False) w W → Calls Tryz.prog 10 #[.slice co cs.length cc'] W fun e w' => ∃ ao c, e = .returned (.slice ao cs.length c) ∧ Sv w' ao cs ∧ cs.length ≤ c ∧ Nwp W w' ao ∧ Kp (fun _ => False) W w') := fun h W hk => cloneS_u (hS.kept hk (fun _ _ _ e => e)) h.2.1 hcn
  have HF := hide hF
  have Hg := hide hg
  have HB := hide hB
  clear hF hD hl hS hcs hz hg hB hdn hcn
  go_enter Tryz.func5, Tryz.ntmps5
  go_wp2_with (first | (go_at_call 23; refine H17.out.mono ?_; rintro e w1 ⟨hw1, b, rfl, hb⟩; have Hb := hide hb; clear hb; subst w1) | (go_at_call 8; refine (H8.out (Hb.out (by assumption))).mono ?_; rintro e w1 ⟨hw1, c, rfl⟩; subst w1))
  any_goals (go_ret; exact ⟨rfl, Kp.refl _ _⟩)
  have HBd : Hid (Bnd5 D cs) := Hb.out (by assumption)
  clear H17 H8 Hb
  go_upto_region 7 with (first | (go_at_call 9; refine (H9.out HBd.out).mono ?_; rintro e w1 ⟨da, dcap, rfl, htx, hle, hcp, hnw, hk1⟩; have Htx := hide htx; have Hle := hide hle; have Hcp := hide hcp; have Hnw := hide hnw; have HK1 := hide hk1; clear htx hle hcp hnw hk1) | (go_at_call 10; refine (H10.out HBd.out _ HK1.out).mono ?_; rintro e w2 ⟨ca, ccap, rfl, hsv, hlc, hnc, hk2⟩; have Hsv := hide hsv; have Hlc := hide hlc; have Hnc := hide hnc; have HK2 := hide hk2; clear hsv hlc hnc hk2))
  have hnb := norm_length (body D)
  have hbb := body_length D
  have hD1 := HBd.out.1
  have HNb : Hid ((body D).length ≤ 1048576) := by show (body D).length ≤ 1048576; omega
  obtain ⟨t, ht⟩ : ∃ t, norm (body D) = t := ⟨_, rfl⟩
  have H13 : Hid (∀ W, Kp (fun _ => False) w2 W → Calls Tryz.prog 13 #[.slice da D.length dcap, .slice ca cs.length ccap] W fun e w' => ∃ v b0 b1 b2 l c b3 b4 b5, e = .returned (.tuple #[v, .agg #[.bool b0, .bool b1, .bool b2, .int .i64 l, .string c, .bool b3, .bool b4, .bool b5]]) ∧ ZnQ W da (.slice ca cs.length ccap) cs ((body D).length + 2) ae (recd t 1) v b0 b1 b2 l c b3 b4 b5 w') := fun W hk => by
    have hkw : Kp (fun _ => False) w W := (HK1.out.step HK2.out).step hk
    have hk1 : Kp (fun _ => False) w1 W := HK2.out.step hk
    have h := zzNewReader_c (B := B) (F := F) (w := W) (by rw [hkw.tape]; exact HF.out) (Htx.out.kept hk1) hD1 Hle.out Hcp.out (Hsv.out.kept hk (fun _ _ _ e => e)) HBd.out.2.1 HBd.out.2.2 Hlc.out (Hg.out.kept hkw (fun _ _ e => e)) (Nat.le_trans HB.out hkw.size) (fun b o e => Nat.lt_of_lt_of_le (Hnw.out b o e).2 hk1.size)
    rw [ht] at h
    exact h.mono (fun e w' hp => hp.q)
  have Hrb := hide (recd_rb t 1)
  have Hlt : Hid (t.length ≤ D.length ∧ nls t ≤ nls D) := by rw [← ht]; exact ⟨by omega, by rw [nls_norm]; exact nls_body D⟩
  have HK12 : Hid (Kp (fun _ => False) w w2) := HK1.out.step HK2.out
  have HTx2 : Hid (Tx w2 da D) := Htx.out.kept HK2.out
  have Hda : Hid (∀ b o, da = some ⟨b, o, none⟩ → b < w2.heap.size) := fun b o e => Nat.lt_of_lt_of_le (Hnw.out b o e).2 HK2.out.size
  have HSv2 : Hid (Sv w2 ca cs) := Hsv.out
  have Hca : Hid (∀ b o, ca = some ⟨b, o, none⟩ → b < w2.heap.size) := fun b o e => (Hnc.out b o e).2
  have HG2 : Hid (Gw B w2 ae ab aq abq) := Hg.out.kept HK12.out (fun _ _ e => e)
  have HB2 : Hid (B ≤ w2.heap.size) := Nat.le_trans HB.out HK12.out.size
  obtain ⟨X, hX⟩ : ∃ X, recd t 1 = X := ⟨_, rfl⟩
  rw [hX] at H13 Hrb
  obtain ⟨dl, hdl⟩ : ∃ dl, dl = D.length := ⟨_, rfl⟩
  obtain ⟨cl, hcl⟩ : ∃ cl, cl = cs.length := ⟨_, rfl⟩
  rw [← hdl, ← hcl] at H13 ⊢
  have Hdl := hide hdl
  have Hcl := hide hcl
  have hdl' : (dl : Int) ≤ 1048576 := by omega
  obtain ⟨N, hN⟩ : ∃ N, N = (body D).length + 2 := ⟨_, rfl⟩
  have HN : Hid (N ≤ 1048578) := by rw [hN]; have := HNb.out; show (body D).length + 2 ≤ 1048578; omega
  rw [← hN] at H13
  clear ht hX hdl hcl hbb hD1 Hle Hcp Hlc Hnw Hnc HK1 HK2 Htx H9 H10 hnb Hg HB hN HNb
  go_upto_region 9 with (first | (go_at_call 13; refine (H13.out _ (by exact Kp.refl _ w2)).mono ?_; rintro e w3 ⟨v, b0, b1, b2, l, c1, b3, b4, b5, rfl, hzq⟩; have Hzq := hide hzq; have HK3 : Hid (Kp (fun _ => False) w2 w3) := hzq.1; clear hzq) | (go_at_call 13; refine (H13.out _ (by exact HK3.out.alloc _)).mono ?_; rintro e w4 ⟨v', a0, a1, a2, l', c2, a3, a4, a5, rfl, hzq⟩; have Hzq' := hide hzq; have HK4 : Hid (Kp (fun _ => False) w3 w4) := (Kp.step ((Kp.refl _ w3).alloc _) hzq.1); clear hzq))
  have Hc1 := hide Hzq.out.2
  have Hc2 := hide Hzq'.out.2
  have HK24 : Hid (Kp (fun _ => False) w2 w4) := HK3.out.step HK4.out
  have Hs34 : Hid (w2.heap.size ≤ w3.heap.size ∧ w3.heap.size + 1 ≤ w4.heap.size) := ⟨HK3.out.size, by have := Hzq'.out.1.size; simpa using this⟩
  have he := eq32
  have HE1 : Hid (Blk w4 w3.heap.size 32 #[.bool b0, .bool b1, .bool b2, .int .i64 l, .string c1, .bool b3, .bool b4, .bool b5]) := (Blk.new w3 32 #[.bool b0, .bool b1, .bool b2, .int .i64 l, .string c1, .bool b3, .bool b4, .bool b5]).kept Hzq'.out.1 (fun e => e)
  have e0 := HE1.out.cell (k := 0) rfl
  have e1 := HE1.out.cell (k := 1) rfl
  have e2 := HE1.out.cell (k := 2) rfl
  have e3 := HE1.out.cell (k := 3) rfl
  have e4 := HE1.out.cell (k := 4) rfl
  have e5 := HE1.out.cell (k := 5) rfl
  have e6 := HE1.out.cell (k := 6) rfl
  have e7 := HE1.out.cell (k := 7) rfl
  have elt : w3.heap.size < w4.heap.size := HE1.out.lt
  rcases Hc1.out with ⟨k1, rfl, rfl, rfl, rfl, rfl, rfl, rfl, rfl, rfl⟩ | ⟨k1, rfl, rfl, rfl, rfl, rfl, rfl, rfl, rfl, rfl⟩ | ⟨k1, kne, rfl, rfl, rfl, rfl, rfl, rfl, rfl, rfl, rfl⟩ | ⟨k1, keq, rfl, rfl, rfl, rfl, rfl, rfl, rfl, rfl, nB, T, rfl, hrdr⟩
  · rcases Hc2.out with ⟨j1, rfl, rfl, rfl, rfl, rfl, rfl, rfl, rfl, rfl⟩ | ⟨j1, _⟩ | ⟨j1, _⟩ | ⟨j1, _⟩
    · clear Hc1 Hc2 Hzq Hzq' HE1 k1 j1
      go_wp2
      go_ret
      exact ⟨rfl, (HK12.out.step HK24.out).alloc _⟩
    · exfalso; omega
    · exfalso; omega
    · exfalso; omega
  · rcases Hc2.out with ⟨j1, _⟩ | ⟨j1, rfl, rfl, rfl, rfl, rfl, rfl, rfl, rfl, rfl⟩ | ⟨j1, _⟩ | ⟨j1, _⟩
    · exfalso; omega
    · obtain ⟨q1, hq1⟩ : ∃ q1, q1 = (X.1.oc == 2) := ⟨_, rfl⟩
      obtain ⟨q2, hq2⟩ : ∃ q2, q2 = (X.1.oc == 3) := ⟨_, rfl⟩
      clear Hc1 Hc2 Hzq Hzq' HE1 k1 j1
      rw [← hq1] at e6
      rw [← hq2] at e7
      rw [← hq1, ← hq2]
      clear hq1 hq2
      go_wp2
      go_ret
      exact ⟨rfl, (HK12.out.step HK24.out).alloc _⟩
    · exfalso; omega
    · exfalso; omega
  · rcases Hc2.out with ⟨j1, _⟩ | ⟨j1, _⟩ | ⟨j1, jne, rfl, rfl, rfl, rfl, rfl, rfl, rfl, rfl, rfl⟩ | ⟨j1, jeq, _⟩
    · exfalso; omega
    · exfalso; omega
    · clear Hc1 Hc2 Hzq Hzq' HE1 k1 j1 kne jne
      go_wp2
      go_ret
      exact ⟨rfl, (HK12.out.step HK24.out).alloc _⟩
    · exact absurd jeq kne
  · rcases Hc2.out with ⟨j1, _⟩ | ⟨j1, _⟩ | ⟨j1, jne, _⟩ | ⟨j1, jeq, rfl, rfl, rfl, rfl, rfl, rfl, rfl, rfl, nB', T', rfl, hrdr'⟩
    · exfalso; omega
    · exfalso; omega
    · exact absurd keq jne
    · have Hrdr := hide hrdr
      have Hrdr' := hide hrdr'
      have Hk1 := hide k1
      have Hlow : Hid (∀ o : Obj, w2.heap.size ≤ (w3.alloc o).heap.size) := fun o => by have := Hs34.out.1; simp; omega
      clear Hc1 Hc2 k1 j1 keq jeq hrdr hrdr' HE1 e0 e1 e2 e3 e4 e5 e6 e7 he
      have HE2 : Hid (∀ o, Kp (fun _ => False) w4 (w4.alloc o)) := fun o => (Kp.refl _ w4).alloc o
      have HTw : Hid (∀ wr, Kp (fun _ => False) w4 wr → Two wr w2.heap.size (w3.heap.size + 1) nB nB' da (.slice ca cl ccap) N ae t X.1.rest 0 X.1.ln 1 (nls D) wr) := fun wr hk => by
        have r1 := Hrdr.out
        have r2 := Hrdr'.out
        have es : ∀ o : Obj, (w3.alloc o).heap.size = w3.heap.size + 1 := fun o => by simp
        rw [es] at r2
        have h3 := r1.at_
        have h4 := r2.nb
        refine ⟨⟨T, T', (r1.quiet HK4.out).quiet hk, r2.quiet hk, fun j hj => ?_, r1.tlt (by omega), r2.low _ (by omega)⟩, Kp.refl _ _, ?_, fun hn => ?_, Hrb.out.len, Hda.out, by have := Hs34.out.1; omega, ?_⟩
        · rcases Nat.lt_or_ge j w3.heap.size with e | e
          · exact r2.low j (by omega)
          · exact absurd (r1.tlt e) hj
        · have := Hrb.out.nl; have := Hlt.out.2; omega
        · have := Hrb.out.up hn; have := Hrb.out.st; omega
        · have := Hs34.out.2; have := hk.size; omega
      have HLn : Hid (X.1.rest.length ≤ dl) := by have h1 := Hrb.out.len; have h2 := Hlt.out.1; have h3 := Hdl.out; show X.1.rest.length ≤ dl; omega
      clear Hzq Hzq' elt
      go_wp2_with fail
      go_loopg [9, 10] (dl - 0) (fun gk s9 s10 wr => ∃ i n : Nat, s10 = .int .i64 i ∧ s9 = .int .i64 n ∧ i ≤ dl ∧ n ≤ i ∧ gk = dl - i ∧ Hid (n = nls (D.take i) ∧ Kp (fun _ => False) w4 wr))
      case atStart => exact ⟨0, 0, rfl, rfl, Nat.zero_le _, Nat.le_refl _, rfl, rfl, HE2.out _⟩
      case round =>
        obtain ⟨i, n, rfl, rfl, hi, hni, rfl, hQ⟩ := hrel
        obtain ⟨w6, rfl⟩ : ∃ w6, w6 = wr := ⟨wr, rfl⟩
        by_cases him : i < dl
        · have him' : (i : Int) < dl := by omega
          have hn' : (n : Int) ≤ 1048576 := by omega
          obtain ⟨b5, o5, c5, hao, hcell, hget⟩ := HTx2.out.get (HK24.out.step hQ.out.2) (j := i) (by rw [← Hdl.out]; exact him)
          subst hao
          have Hget := hide hget
          clear hget
          cases x10 : ((c5.toNat : Int) == 10)
          · go_wp2_with fail
            go_roundg (dl - (i + 1))
            case measure => omega
            case rel => exact ⟨i + 1, n, by go_num, rfl, by omega, by omega, rfl, by rw [nls_take Hget.out, if_neg (by intro e; rw [e] at x10; cases x10)]; exact hQ.out.1, hQ.out.2⟩
          · go_wp2_with fail
            go_roundg (dl - (i + 1))
            case measure => omega
            case rel => exact ⟨i + 1, n + 1, by go_num, by go_num, by omega, by omega, rfl, by rw [nls_take Hget.out, if_pos (u8_eq (k := 10) x10), ← hQ.out.1], hQ.out.2⟩
        · have hid : i = dl := by omega
          subst hid
          have him' : ¬ (i : Int) < i := by omega
          have Hn : Hid (n = nls D) := by have h1 := hQ.out.1; rw [List.take_of_length_le (by have := Hdl.out; omega)] at h1; exact h1
          have hn' : (n : Int) ≤ 1048576 := by omega
          have HK26 : Hid (Kp (fun _ => False) w2 w6) := HK24.out.step hQ.out.2
          have HTw6 := hide (HTw.out w6 hQ.out.2)
          rw [← Hn.out] at HTw6
          clear HTw hQ HK24 HK3 HK4 Hs34 Hrdr Hrdr' HE2
          go_wp2_with fail
          go_loopg [11, 12] (i + 2) (fun gk s11 s12 wr => ∃ (last k : Nat) (x : Bs) (ln : Nat), s11 = .int .i64 last ∧ s12 = .int .i64 k ∧ k + x.length ≤ i ∧ gk = i + 2 - k ∧ last ≤ 3000000 ∧ Hid (Two w6 w2.heap.size (w3.heap.size + 1) nB nB' da (.slice ca cl ccap) N ae t x k ln last n wr))
          case atStart => exact ⟨1, 0, X.1.rest, X.1.ln, rfl, rfl, by have := HLn.out; omega, rfl, by omega, HTw6.out⟩
          case round =>
            obtain ⟨last, k, x, ln, rfl, rfl, hkx, rfl, hlast, hTw⟩ := hrel
            obtain ⟨w7, rfl⟩ : ∃ w7, w7 = wr := ⟨wr, rfl⟩
            obtain ⟨T1, T2, r1, r2, hd12, h12, h21⟩ := hTw.out.ex
            have Hr1 := hide r1
            have Hr2 := hide r2
            have Hd12 := hide hd12
            have H12 := hide h12
            have Hn21 := hide h21
            have hk' : (k : Int) ≤ i + 1 := by omega
            have hk1 : (k : Int) ≤ 1048576 := by omega
            have hlast' : (last : Int) ≤ 3000000 := by omega
            have Hxl : Hid (x.length ≤ 1048576) := by show x.length ≤ 1048576; omega
            have HKw : Hid (∀ wx, Kp (fun j => w2.heap.size ≤ j) w7 wx → Kp (fun _ => False) w wx) := fun wx h => by
              have a1 : Kp (fun j => w2.heap.size ≤ j) w6 wx := hTw.out.kp.up5 h (fun _ e => e)
              have a2 := HK12.out.step HK26.out
              exact a2.trans (a1.mono (fun j _ e => .inr (Nat.le_trans HK12.out.size e)))
            have HG7 : Hid (Gw w2.heap.size w7 ae ab aq abq) := ((HG2.out.up5 HB2.out).kept HK26.out (fun _ _ e => e)).kept hTw.out.kp (fun j hj e => by omega)
            have HC7 : Hid (Sv w7 ca cs) := (HSv2.out.kept HK26.out (fun _ _ _ e => e)).kept hTw.out.kp (fun b o e hb => by have := Hca.out b o e; omega)
            have Hrb2 := hide (recd_rb x ln)
            have Hfz2 := hide (recd_fz x ln)
            have H18 : Hid (Calls Tryz.prog 18 #[.pointer (some ⟨nB', 0, none⟩)] w7 fun e w' => ∃ v b0 b1 b2 l c b3 b4 b5, e = .returned (.tuple #[v, .agg #[.bool b0, .bool b1, .bool b2, .int .i64 l, .string c, .bool b3, .bool b4, .bool b5]]) ∧ ZxQ (w3.heap.size + 1) w7 T2 nB' da (.slice ca cl ccap) (N + 2 * k) ae (recd x ln) v b0 b1 b2 l c b3 b4 b5 w') := by
              refine (zzNext_c r2 (HG7.out.up5 hTw.out.le) hTw.out.sz (by have := HN.out; omega) (fun b o e => ?_)).mono (fun e w' hp => hp.q)
              have := hTw.out.sb b o e; have := hTw.out.le; have := hTw.out.sz; omega
            have H15 : Hid (∀ W8 W, Kp (Fa T2) w7 W8 → Kp (fun _ => False) W8 W → Calls Tryz.prog 15 #[.pointer (some ⟨nB, 0, none⟩)] W fun e w' => ∃ v b0 b1 b2 l c b3 b4 b5, e = .returned (.tuple #[v, .agg #[.bool b0, .bool b1, .bool b2, .int .i64 l, .string c, .bool b3, .bool b4, .bool b5]]) ∧ ZrQ w2.heap.size W T1 nB da (.slice ca cl ccap) cs (N + 2 * k) ae (recd x ln) v b0 b1 b2 l c b3 b4 b5 w') := fun W8 W h1 h2 => by
              have k1 : ∀ j, j < w2.heap.size → ¬ Fa T2 j := fun j hj e => e (r2.low j (by have := hTw.out.le; omega))
              have q1 := (r1.kept h1 (fun j hj => by rcases Nat.eq_zero_or_pos (T1 j) with e | e; exact e; exact absurd (hd12 j (by omega)) hj) (fun e => e h21) (fun b o eb e => k1 b (hTw.out.sb b o eb) e)).quiet h2
              have hs1 := h1.size
              have hs2 := h2.size
              have htp : W.tape = w.tape := by rw [h2.tape, h1.tape, hTw.out.kp.tape, HK26.out.tape, HK12.out.tape]
              rw [Hcl.out] at q1 ⊢
              refine zzRead_c (F := F) (by rw [htp]; exact HF.out) q1 ((HG7.out.kept h1 k1).kept h2 (fun _ _ e => e)) (by have := hTw.out.le; have := hTw.out.sz; omega) (by have := HN.out; omega) (fun b o e => ?_) ((HC7.out.kept h1 (fun b o e => k1 b (Hca.out b o e))).kept h2 (fun _ _ _ e => e)) HBd.out.2.1 Hca.out Hxl.out
              have := hTw.out.sb b o e; have := hTw.out.le; have := hTw.out.sz; omega
            obtain ⟨Y, hY⟩ : ∃ Y, recd x ln = Y := ⟨_, rfl⟩
            rw [hY] at H18 H15 Hrb2 Hfz2
            clear hY r1 r2 hd12 h12 h21
            go_upto_region 23 with (first | (go_at_call 18; refine H18.out.mono ?_; rintro e w8 ⟨v2, b0, b1, b2, l2, c2, b3, b4, b5, rfl, hzq⟩; have Hzx := hide hzq; clear hzq) | (go_at_call 15; obtain ⟨T2', g1, g2, g3, g4⟩ := Hzx.out; refine (H15.out w8 _ g2 (by exact (Kp.refl _ w8).alloc _)).mono ?_; rintro e w9 ⟨v1, a0, a1, a2, l1, c1, a3, a4, a5, rfl, hzq⟩; have Hzr := hide hzq; clear hzq g1 g2 g3 g4))
            obtain ⟨T2', q2, k2, o2, hcx⟩ := Hzx.out
            obtain ⟨T1', q1, k1, o1, hcr⟩ := Hzr.out
            have s78 : w7.heap.size ≤ w8.heap.size := k2.size
            have HNext : Hid (∀ wx, Kp (fun _ => False) w9 wx → Two w6 w2.heap.size (w3.heap.size + 1) nB nB' da (.slice ca cl ccap) N ae t Y.1.rest (k + 1) Y.1.ln Y.2 n wx) := fun wx hx => two_next hTw.out Hr1.out Hr2.out Hd12.out H12.out Hn21.out q2 k2 o2 ((Kp.refl _ w8).alloc _) q1 k1 o1 hx Hrb2.out
            have HK79 : Hid (Kp (fun j => w2.heap.size ≤ j) w7 w9) := (((Kp.refl _ w7).up5 k2 (fun j hj => Nat.le_trans hTw.out.le (Hr2.out.fa5 j hj))).up5 ((Kp.refl (fun _ => False) w8).alloc _) (fun _ e => e.elim)).up5 k1 Hr1.out.fa5
            have HP2 : Hid (Blk w9 w8.heap.size 32 #[.bool b0, .bool b1, .bool b2, .int .i64 l2, .string c2, .bool b3, .bool b4, .bool b5]) := (Blk.new w8 32 #[.bool b0, .bool b1, .bool b2, .int .i64 l2, .string c2, .bool b3, .bool b4, .bool b5]).kept k1 (fun e => e (Hr1.out.tlt s78))
            have HK1c : Hid (∀ bb, w7.heap.size ≤ bb → ¬ Fa T1 bb) := fun bb h e => e (Hr1.out.tlt h)
            have HK1k := hide k1
            have p0 := HP2.out.cell (k := 0) rfl
            have p1 := HP2.out.cell (k := 1) rfl
            have p2 := HP2.out.cell (k := 2) rfl
            have p3 := HP2.out.cell (k := 3) rfl
            have p4 := HP2.out.cell (k := 4) rfl
            have p5 := HP2.out.cell (k := 5) rfl
            have p6 := HP2.out.cell (k := 6) rfl
            have p7 := HP2.out.cell (k := 7) rfl
            have plt : w8.heap.size < w9.heap.size := HP2.out.lt
            have HC9 : Hid (Sv w9 ca cs) := HC7.out.kept HK79.out (fun b o e hb => by have := Hca.out b o e; omega)
            have Hcx := hide hcx
            have Hcr := hide hcr
            have hne := ne32
            clear q1 q2 k1 k2 o1 o2 hcx hcr Hzx Hzr H18 H15
            by_cases hoc : Y.1.oc = 1
            · rcases Hcx.out with ⟨j1, rfl, rfl, rfl, rfl, rfl, rfl, rfl, rfl, rfl⟩ | ⟨j1, _⟩ | ⟨j1, _⟩
              · rcases Hcr.out with ⟨m1, rfl, rfl, rfl, rfl, rfl, rfl, rfl, rfl, rfl⟩ | ⟨m1, _⟩ | ⟨m1, _⟩ | ⟨m1, _⟩
                · clear Hcx Hcr j1 m1 hoc HP2
                  go_wp2
                  go_ret
                  exact ⟨rfl, HKw.out _ (HK79.out.up5 ((Kp.refl (fun _ => False) w9).alloc _) (fun _ e => e.elim))⟩
                · exfalso; omega
                · exfalso; omega
                · exfalso; omega
              · exfalso; omega
              · exfalso; omega
            · have hlt := Hrb2.out.lt hoc
              have hxn : x ≠ [] := by intro e; rw [e] at hlt; simp at hlt
              have g1 := hTw.out.last hxn
              have g2 := Hrb2.out.st
              have g3 := Hrb2.out.top hoc
              have g4 := hTw.out.nl
              have hgt : ¬ ((Y.2 : Int) ≤ last) := by omega
              have hle : ¬ ((n : Int) + 1 < Y.2) := by omega
              have hY2 : Y.2 ≤ 3000000 := by omega
              have hkn : k + 1 + Y.1.rest.length ≤ i := by omega
              have hoc' := hide hoc
              clear g1 g2 g3 g4 hxn hoc
              rcases Hcx.out with ⟨j1, _⟩ | ⟨j1, rfl, rfl, rfl, rfl, rfl, rfl, rfl, rfl, lB2, fv, rfl, hb8, tl8, hs8, hnl, hnv⟩ | ⟨j1, rfl, rfl, rfl, rfl, rfl, rfl, rfl, rfl, rfl⟩
              · exact absurd j1 hoc'.out
              · obtain ⟨gb, gcap, rfl, hgc, hgb, hsg⟩ := hs8.sv
                have hb9 : Blk w9 lB2 42 #[.int .i64 Y.2, .slice (some ⟨gb, 0, none⟩) Y.1.fs.length gcap, .slice ca cl ccap] := (hb8.alloc _).kept HK1k.out (HK1c.out lB2 hnl)
                have hsg9 : Sv w9 (some ⟨gb, 0, none⟩) (fsb Y.1.fs) := (hsg.kept ((Kp.refl (fun _ => False) w8).alloc _) (fun _ _ _ e => e)).kept HK1k.out (fun b o e => by cases e; exact HK1c.out gb (hnv gb 0 _ _ rfl))
                have Hsg9 := hide hsg9
                have n0 : w9.cell? ⟨lB2, 0, none⟩ = some (.int .i64 Y.2) := hb9.cell rfl
                have nlt : lB2 < w9.heap.size := hb9.lt
                have hfl : (fsb Y.1.fs).length ≤ 4000000 := by
                  rw [fsb_length]
                  have := Hfz2.out.1
                  have := Hxl.out
                  omega
                have Hfl := hide hfl
                have H21 : Hid (∀ W, Kp (fun _ => False) w9 W → Calls Tryz.prog 21 #[.pointer (some ⟨lB2, 0, none⟩)] W fun e w' => e = .returned (.slice (some ⟨gb, 0, none⟩) Y.1.fs.length gcap) ∧ w' = W) := fun W hk => lineFields_c (hb9.kept hk (fun e => e))
                have H22 : Hid (∀ W, Kp (fun _ => False) w9 W → Calls Tryz.prog 22 #[.pointer (some ⟨lB2, 0, none⟩)] W fun e w' => e = .returned (.slice ca cl ccap) ∧ w' = W) := fun W hk => lineColumns_c (hb9.kept hk (fun e => e))
                have H20 : Hid (∀ W, Kp (fun _ => False) w9 W → Calls Tryz.prog 20 #[.slice ca cl ccap, .slice ca cl ccap] W fun e w' => e = .returned (.bool true) ∧ ∃ q, w' = W.drewN q) := fun W hk => by
                  have h2 : cs.length ≤ 4000000 := by have := HBd.out.2.1; omega
                  rw [Hcl.out]
                  refine (equalS_c (HC9.out.kept hk (fun _ _ _ e => e)) (HC9.out.kept hk (fun _ _ _ e => e)) h2 h2).mono ?_
                  rintro e w' ⟨⟨Bq, rfl, hBq⟩, hk2⟩
                  rw [hBq.2 rfl]
                  exact ⟨rfl, hk2⟩
                have H24x : Hid (∀ W, Kp (fun _ => False) w9 W → Calls Tryz.prog 24 #[.slice (some ⟨gb, 0, none⟩) Y.1.fs.length gcap] W (FiPost W (fsb Y.1.fs))) := fun W hk => by
                  have h := firstInvalid_c (cap := gcap) (hsg9.kept hk (fun _ _ _ e => e)) hfl (fun s hs => by
                    obtain ⟨f, hf, rfl⟩ := List.mem_map.1 hs
                    have h1 := Hfz2.out.2 f hf
                    have := Hxl.out
                    show f.toArray.size ≤ 4000000
                    rw [List.size_toArray]; omega)
                  rw [fsb_length] at h
                  exact h
                obtain ⟨yf, hyf⟩ : ∃ yf, yf = Y.1.fs.length := ⟨_, rfl⟩
                rw [← hyf] at H21 H24x hb9
                have Hyf := hide hyf
                have hyf' : (yf : Int) ≤ 4000000 := by rw [fsb_length] at hfl; omega
                have hcl' : (cl : Int) ≤ 1048576 := by have h1 := HBd.out.2.1; have h2 := Hcl.out; omega
                clear hb8 tl8 hs8 hnl hnv hgc hgb hsg hb9 hsg9 hfl hyf Hcx
                rcases Hcr.out with ⟨m1, _⟩ | ⟨m1, hl1, hl2, rfl, rfl, rfl, rfl, rfl, rfl, rfl, rfl, lB1, fv1, rfl, hd9, td9, hs9⟩ | ⟨m1, _⟩ | ⟨m1, rfl, rfl, rfl, rfl, rfl, hrf, rfl, rfl, rfl⟩
                · exact absurd m1 hoc'.out
                · obtain ⟨gb1, gcap1, rfl, hgc1, hgb1, hsg1⟩ := hs9.sv
                  have hlx : ((yf : Int) != (cl : Int)) = false := by have h1 := Hyf.out; have h2 := Hcl.out; rw [show yf = cl by omega]; simp
                  have m0 : w9.cell? ⟨lB1, 0, none⟩ = some (.int .i64 Y.2) := hd9.cell rfl
                  have mlt : lB1 < w9.heap.size := hd9.lt
                  have H24 : Hid (∀ W, Kp (fun _ => False) w9 W → Calls Tryz.prog 24 #[.slice (some ⟨gb, 0, none⟩) yf gcap] W fun e w' => e = .returned (.int .i64 (-1)) ∧ w' = W) := fun W hk => (H24x.out W hk).mono (by
                    rintro e w' ⟨h1, ⟨rfl, hgd⟩ | ⟨kk, rfl, v1, v2, v3⟩⟩
                    · exact ⟨rfl, h1⟩
                    · exact absurd (hl2 kk v1) (by rw [v2]; decide))
                  have H21b : Hid (∀ W, Kp (fun _ => False) w9 W → Calls Tryz.prog 21 #[.pointer (some ⟨lB1, 0, none⟩)] W fun e w' => e = .returned (.slice (some ⟨gb1, 0, none⟩) yf gcap1) ∧ w' = W) := fun W hk => by rw [Hyf.out]; exact lineFields_c (hd9.kept hk (fun e => e))
                  have H22b : Hid (∀ W, Kp (fun _ => False) w9 W → Calls Tryz.prog 22 #[.pointer (some ⟨lB1, 0, none⟩)] W fun e w' => e = .returned (.slice ca cl ccap) ∧ w' = W) := fun W hk => lineColumns_c (hd9.kept hk (fun e => e))
                  have H20b : Hid (∀ (v1 v2 : Value) (W : World), ((v1 = .slice (some ⟨gb1, 0, none⟩) yf gcap1 ∧ v2 = .slice (some ⟨gb, 0, none⟩) yf gcap) ∨ (v1 = .slice ca cl ccap ∧ v2 = .slice ca cl ccap)) → Kp (fun _ => False) w9 W → Calls Tryz.prog 20 #[v1, v2] W fun e w' => e = .returned (.bool true) ∧ ∃ q, w' = W.drewN q) := fun v1 v2 W hv hk => by
                    rcases hv with ⟨rfl, rfl⟩ | ⟨rfl, rfl⟩
                    · rw [Hyf.out, ← fsb_length]
                      refine (equalS_c (hsg1.kept hk (fun _ _ _ e => e)) (Hsg9.out.kept hk (fun _ _ _ e => e)) Hfl.out Hfl.out).mono ?_
                      rintro e w' ⟨⟨Bq, rfl, hBq⟩, hk2⟩
                      rw [hBq.2 rfl]
                      exact ⟨rfl, hk2⟩
                    · exact H20.out W hk
                  clear hd9 td9 hs9 hgc1 hgb1 hsg1 hl1 hl2 Hcr H24x
                  go_upto_region 44 with (first | (go_at_call 21; refine (H21.out _ (by first | exact (Kp.refl _ w9).alloc _ | exact ((Kp.refl _ w9).alloc _).drewN _ | exact (((Kp.refl _ w9).alloc _).drewN _).drewN _)).mono ?_; rintro e w10 ⟨rfl, hw10⟩; subst w10) | (go_at_call 22; refine (H22.out _ (by first | exact (Kp.refl _ w9).alloc _ | exact ((Kp.refl _ w9).alloc _).drewN _ | exact (((Kp.refl _ w9).alloc _).drewN _).drewN _)).mono ?_; rintro e w10 ⟨rfl, hw10⟩; subst w10) | (go_at_call 20; refine (H20.out _ (by first | exact (Kp.refl _ w9).alloc _ | exact ((Kp.refl _ w9).alloc _).drewN _ | exact (((Kp.refl _ w9).alloc _).drewN _).drewN _)).mono ?_; rintro e w10 ⟨rfl, q, hw10⟩; subst w10) | (go_at_call 24; refine (H24.out _ (by first | exact (Kp.refl _ w9).alloc _ | exact ((Kp.refl _ w9).alloc _).drewN _ | exact (((Kp.refl _ w9).alloc _).drewN _).drewN _)).mono ?_; rintro e w10 ⟨rfl, hw10⟩; subst w10))
                  go_wp2_with (first | (go_at_call 21; refine (H21b.out _ (by first | exact (Kp.refl _ w9).alloc _ | exact ((Kp.refl _ w9).alloc _).drewN _ | exact (((Kp.refl _ w9).alloc _).drewN _).drewN _)).mono ?_; rintro e w10 ⟨rfl, hw10⟩; subst w10) | (go_at_call 22; refine (H22b.out _ (by first | exact (Kp.refl _ w9).alloc _ | exact ((Kp.refl _ w9).alloc _).drewN _ | exact (((Kp.refl _ w9).alloc _).drewN _).drewN _)).mono ?_; rintro e w10 ⟨rfl, hw10⟩; subst w10) | (go_at_call 20; refine (H20b.out _ _ _ (by first | exact .inl ⟨rfl, rfl⟩ | exact .inr ⟨rfl, rfl⟩) (by first | exact (Kp.refl _ w9).alloc _ | exact ((Kp.refl _ w9).alloc _).drewN _ | exact (((Kp.refl _ w9).alloc _).drewN _).drewN _)).mono ?_; rintro e w10 ⟨rfl, q, hw10⟩; subst w10))
                  go_roundg (i + 2 - (k + 1))
                  case measure => omega
                  case rel => exact ⟨Y.2, k + 1, Y.1.rest, Y.1.ln, rfl, by go_num, by omega, rfl, by omega, HNext.out _ (by first | exact ((((Kp.refl _ w9).alloc _).drewN _).drewN _).drewN _ | exact (((Kp.refl _ w9).alloc _).drewN _).drewN _ | exact ((Kp.refl _ w9).alloc _).drewN _)⟩
                · exfalso; omega
                · have hrf' := hide hrf
                  have H19 : Hid (∀ W, Calls Tryz.prog 19 #[.agg #[.bool false, .bool false, .bool true, .int .i64 Y.2, .string c1, .bool false, .bool false, .bool false], .int .i64 Y.2, .string c1, .int .i64 0] W fun e w' => e = .returned (.bool true) ∧ Kp (fun _ => False) W w') := fun W => fieldErr_c W Y.2 c1 0 false false rfl rfl
                  rcases hrf with ⟨hl, hc⟩ | ⟨hl, kb, hkb, hfb, hc⟩
                  · subst hc
                    have hlx : ((yf : Int) != (cl : Int)) = true := by rw [bne_iff_ne]; have := Hyf.out; have := Hcl.out; omega
                    have H24 : Hid (∀ W, Kp (fun _ => False) w9 W → Calls Tryz.prog 24 #[.slice (some ⟨gb, 0, none⟩) yf gcap] W fun e w' => ∃ rr : Int, e = .returned (.int .i64 rr) ∧ True ∧ w' = W) := fun W hk => (H24x.out W hk).mono (by
                      rintro e w' ⟨h1, ⟨rfl, _⟩ | ⟨kk, rfl, _⟩⟩
                      · exact ⟨_, rfl, trivial, h1⟩
                      · exact ⟨_, rfl, trivial, h1⟩)
                    clear hrf' hl Hcr H24x
                    go_wp2_with (first | (go_at_call 21; refine (H21.out _ (by first | exact (Kp.refl _ w9).alloc _ | exact ((Kp.refl _ w9).alloc _).drewN _ | exact (((Kp.refl _ w9).alloc _).drewN _).drewN _)).mono ?_; rintro e w10 ⟨rfl, hw10⟩; subst w10) | (go_at_call 22; refine (H22.out _ (by first | exact (Kp.refl _ w9).alloc _ | exact ((Kp.refl _ w9).alloc _).drewN _ | exact (((Kp.refl _ w9).alloc _).drewN _).drewN _)).mono ?_; rintro e w10 ⟨rfl, hw10⟩; subst w10) | (go_at_call 20; refine (H20.out _ (by first | exact (Kp.refl _ w9).alloc _ | exact ((Kp.refl _ w9).alloc _).drewN _ | exact (((Kp.refl _ w9).alloc _).drewN _).drewN _)).mono ?_; rintro e w10 ⟨rfl, q, hw10⟩; subst w10) | (go_at_call 24; refine (H24.out _ (by first | exact (Kp.refl _ w9).alloc _ | exact ((Kp.refl _ w9).alloc _).drewN _ | exact (((Kp.refl _ w9).alloc _).drewN _).drewN _)).mono ?_; rintro e w10 hp; obtain ⟨rr, rfl, hrr, hw10⟩ := hp; subst w10; have Hrr := hide hrr; clear hrr) | (go_at_call 19; refine (H19.out _).mono ?_; rintro e w11 ⟨rfl, hk11⟩; have HK11 := hide hk11; clear hk11))
                    go_roundg (i + 2 - (k + 1))
                    case measure => omega
                    case rel => exact ⟨Y.2, k + 1, Y.1.rest, Y.1.ln, rfl, by go_num, by omega, rfl, by omega, HNext.out _ ((((Kp.refl _ w9).alloc _).drewN _).step HK11.out)⟩
                  · have hlx : ((yf : Int) != (cl : Int)) = false := by have h1 := Hyf.out; have h2 := Hcl.out; rw [show yf = cl by omega]; simp
                    have hkc : (kb : Int) < cl := by have := Hcl.out; omega
                    have hk0 : (0 : Int) ≤ kb := by omega
                    obtain ⟨cb, cof, hcao, hccell⟩ := HC9.out kb hkb
                    subst hcao
                    obtain ⟨ck, hck⟩ : ∃ ck, ck = cs[kb] := ⟨_, rfl⟩
                    rw [← hck] at hccell hc
                    have cblt : cb < w9.heap.size := lt_of_cell hccell
                    have H24 : Hid (∀ W, Kp (fun _ => False) w9 W → Calls Tryz.prog 24 #[.slice (some ⟨gb, 0, none⟩) yf gcap] W fun e w' => e = .returned (.int .i64 kb) ∧ w' = W) := fun W hk => (H24x.out W hk).mono (by
                      obtain ⟨u1, u2, u3⟩ := hfb
                      rintro e w' ⟨h1, ⟨rfl, hgd⟩ | ⟨kk, rfl, v1, v2, v3⟩⟩
                      · exact absurd (hgd kb u1) (by rw [u2]; decide)
                      · have : kk = kb := by
                          rcases Nat.lt_trichotomy kk kb with e | e | e
                          · exact absurd (u3 kk v1 e) (by rw [v2]; decide)
                          · exact e
                          · exact absurd (v3 kb u1 e) (by rw [u2]; decide)
                        subst this
                        exact ⟨rfl, h1⟩)
                    have Hck := hide hck
                    clear hrf' hl Hcr H24x hfb hck
                    by_cases hone : cl = 1
                    · have ho1 : ((cl : Int) == 1) = true := by rw [beq_iff_eq]; omega
                      rw [if_pos (by have := Hcl.out; omega)] at hc
                      have Hone := hide hone
                      clear hone
                      subst hc
                      go_wp2_with (first | (go_at_call 21; refine (H21.out _ (by first | exact (Kp.refl _ w9).alloc _ | exact ((Kp.refl _ w9).alloc _).drewN _ | exact (((Kp.refl _ w9).alloc _).drewN _).drewN _)).mono ?_; rintro e w10 ⟨rfl, hw10⟩; subst w10) | (go_at_call 22; refine (H22.out _ (by first | exact (Kp.refl _ w9).alloc _ | exact ((Kp.refl _ w9).alloc _).drewN _ | exact (((Kp.refl _ w9).alloc _).drewN _).drewN _)).mono ?_; rintro e w10 ⟨rfl, hw10⟩; subst w10) | (go_at_call 20; refine (H20.out _ (by first | exact (Kp.refl _ w9).alloc _ | exact ((Kp.refl _ w9).alloc _).drewN _ | exact (((Kp.refl _ w9).alloc _).drewN _).drewN _)).mono ?_; rintro e w10 ⟨rfl, q, hw10⟩; subst w10) | (go_at_call 24; refine (H24.out _ (by first | exact (Kp.refl _ w9).alloc _ | exact ((Kp.refl _ w9).alloc _).drewN _ | exact (((Kp.refl _ w9).alloc _).drewN _).drewN _)).mono ?_; rintro e w10 ⟨rfl, hw10⟩; subst w10) | (go_at_call 19; refine (H19.out _).mono ?_; rintro e w11 ⟨rfl, hk11⟩; have HK11 := hide hk11; clear hk11))
                      go_roundg (i + 2 - (k + 1))
                      case measure => omega
                      case rel => exact ⟨Y.2, k + 1, Y.1.rest, Y.1.ln, rfl, by go_num, by omega, rfl, by omega, HNext.out _ ((((Kp.refl _ w9).alloc _).drewN _).step HK11.out)⟩
                    · have ho1 : ((cl : Int) == 1) = false := by rw [beq_eq_false_iff_ne]; omega
                      rw [if_neg (by have := Hcl.out; omega)] at hc
                      subst hc
                      go_wp2_with (first | (go_at_call 21; refine (H21.out _ (by first | exact (Kp.refl _ w9).alloc _ | exact ((Kp.refl _ w9).alloc _).drewN _ | exact (((Kp.refl _ w9).alloc _).drewN _).drewN _)).mono ?_; rintro e w10 ⟨rfl, hw10⟩; subst w10) | (go_at_call 22; refine (H22.out _ (by first | exact (Kp.refl _ w9).alloc _ | exact ((Kp.refl _ w9).alloc _).drewN _ | exact (((Kp.refl _ w9).alloc _).drewN _).drewN _)).mono ?_; rintro e w10 ⟨rfl, hw10⟩; subst w10) | (go_at_call 20; refine (H20.out _ (by first | exact (Kp.refl _ w9).alloc _ | exact ((Kp.refl _ w9).alloc _).drewN _ | exact (((Kp.refl _ w9).alloc _).drewN _).drewN _)).mono ?_; rintro e w10 ⟨rfl, q, hw10⟩; subst w10) | (go_at_call 24; refine (H24.out _ (by first | exact (Kp.refl _ w9).alloc _ | exact ((Kp.refl _ w9).alloc _).drewN _ | exact (((Kp.refl _ w9).alloc _).drewN _).drewN _)).mono ?_; rintro e w10 ⟨rfl, hw10⟩; subst w10) | (go_at_call 19; refine (H19.out _).mono ?_; rintro e w11 ⟨rfl, hk11⟩; have HK11 := hide hk11; clear hk11))
                      go_roundg (i + 2 - (k + 1))
                      case measure => omega
                      case rel => exact ⟨Y.2, k + 1, Y.1.rest, Y.1.ln, rfl, by go_num, by omega, rfl, by omega, HNext.out _ ((((Kp.refl _ w9).alloc _).drewN _).step HK11.out)⟩
              · rcases Hcr.out with ⟨m1, _⟩ | ⟨m1, _⟩ | ⟨m1, rfl, rfl, rfl, rfl, rfl, rfl, rfl, rfl, rfl⟩ | ⟨m1, _⟩
                · exact absurd m1 hoc'.out
                · exfalso; omega
                · obtain ⟨q1, hq1⟩ : ∃ q1, q1 = (Y.1.oc == 2) := ⟨_, rfl⟩
                  obtain ⟨q2, hq2⟩ : ∃ q2, q2 = (Y.1.oc == 3) := ⟨_, rfl⟩
                  rw [← hq1] at p6
                  rw [← hq2] at p7
                  rw [← hq1, ← hq2]
                  clear Hcx Hcr j1 m1 hq1 hq2 HP2
                  go_wp2_with fail
                  go_roundg (i + 2 - (k + 1))
                  case measure => omega
                  case rel => exact ⟨Y.2, k + 1, Y.1.rest, Y.1.ln, rfl, by go_num, by omega, rfl, by omega, HNext.out _ ((Kp.refl _ w9).alloc _)⟩
                · exfalso; omega
end Go.Proofs.Qxb6615582aGreatFmt
