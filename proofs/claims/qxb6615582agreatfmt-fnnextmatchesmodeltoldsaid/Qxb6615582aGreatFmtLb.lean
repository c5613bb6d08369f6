import Derived.Test.Qxb6615582aGreatFmtLa
namespace Go.Proofs.Qxb6615582aGreatFmt
open Go.RowKit
attribute [local go_sem] Go.wp_at_zero Go.wp_at_succ

def L4Post (w : World) (e : Ending) (w' : World) : Prop := e = .returned (.bool true) ∧ Kp (fun _ => False) w w'
theorem Gw.up {B B' : Nat} {w : World} {ae ab aq abq : Addr} (h : Gw B w ae ab aq abq) (hB : B ≤ B') : Gw B' w ae ab aq abq := by
  obtain ⟨a1, a2, a3, a4⟩ := h.la
  exact ⟨h.e0, h.e8, h.e1, h.e2, h.ne, h.neq, h.tabs, h.h5, Nat.le_trans h.lt hB, by omega, by omega, by omega, by omega⟩
/-- In the law's loop. -/
def LR (w6 : World) (B2 nB : Nat) (sb : Option Addr) (cols : Value) (t : Bs) (N : Nat) (ae : Addr) (p k ln : Nat) (wr : World) : Prop :=
  (∃ T, Rdr B2 wr T nB sb cols (t.drop p) ln (N + 2 * k) ae) ∧ Kp (fun j => B2 ≤ j) w6 wr ∧ ln + nls (t.drop p) ≤ t.length + 1
theorem Kp.up {B2 : Nat} {a b c : World} (h : Kp (fun j => B2 ≤ j) a b) {F : Nat → Prop} (k : Kp F b c) (hF : ∀ j, F j → B2 ≤ j) : Kp (fun j => B2 ≤ j) a c := h.trans (k.mono (fun j _ e => .inl (hF j e)))
theorem Rdr.fa {B : Nat} {w : World} {T : Nat → Nat} {nB : Nat} {sb : Option Addr} {cols : Value} {x : Bs} {ln N : Nat} {ae : Addr} (h : Rdr B w T nB sb cols x ln N ae) : ∀ j, Fa T j → B ≤ j := fun j hj => by
  rcases Nat.lt_or_ge j B with e | e
  · exact absurd (h.low j e) hj
  · exact e
theorem LR.next {w6 w8 wx : World} {B2 nB : Nat} {sb : Option Addr} {cols : Value} {t : Bs} {N : Nat} {ae : Addr} {p k ln p' : Nat} {T' : Nat → Nat} {X : Out × Nat} (hr : Rdr B2 w8 T' nB sb cols X.1.rest X.1.ln (N + 2 * k + 2) ae) (hk : Kp (fun j => B2 ≤ j) w6 w8) (hx : Kp (fun _ => False) w8 wx) (hd : t.drop p' = X.1.rest) (hb : Rcb X (t.drop p) ln) (hl : ln + nls (t.drop p) ≤ t.length + 1) : LR w6 B2 nB sb cols t N ae p' (k + 1) X.1.ln wx := by
  refine ⟨⟨T', ?_⟩, hk.up hx (fun _ e => e.elim), ?_⟩
  · rw [hd, show N + 2 * (k + 1) = N + 2 * k + 2 by omega]
    exact hr.quiet hx
  · rw [hd, hb.nl]; exact hl
/-- The bounds that the law tests. -/
def Bnd (D : Bs) (cs : List ByteArray) : Prop := D.length ≤ 1048576 ∧ cs.length ≤ 1048576 ∧ ∀ s ∈ cs, s.size ≤ 1048576
set_option maxRecDepth 100000 in
set_option maxHeartbeats 4000000 in
theorem law4_c {B : Nat} {w : World} {F : Go.Stop.Interp} (hF : F.answers w.tape) {dao : Option Addr} {D : Bs} {dc : Nat} (hD : Tx w dao D) (hdn : dao = none → dc = 0) (hl : D.length ≤ 9223372036854775807)
    {co : Option Addr} {cc' : Nat} {cs : List ByteArray} (hS : Sv w co cs) (hcn : co = none → cc' = 0) (hcs : cs.length ≤ 9223372036854775807) (hz : ∀ s ∈ cs, s.size ≤ 9223372036854775807) {ae ab aq abq : Addr} (hg : Gw B w ae ab aq abq) (hB : B ≤ w.heap.size) :
    Calls Tryz.prog 4 #[.slice dao D.length dc, .slice co cs.length cc'] w (L4Post w) := by
  have H17 : Hid (Calls Tryz.prog 17 #[.slice dao D.length dc, .slice co cs.length cc'] w fun e w' => w' = w ∧ ∃ b, e = .returned (.bool b) ∧ ((!b) = false → Bnd D cs)) := (bytes17_c hS hl hcs hz).mono (by
    rintro e w' ⟨h1, rfl | ⟨rfl, h2⟩⟩
    · exact ⟨h1, false, rfl, fun e => (by cases e)⟩
    · exact ⟨h1, true, rfl, fun _ => h2⟩)
  have H8 : Hid (Bnd D cs → Calls Tryz.prog 8 #[.int .i64 D.length, .slice co cs.length cc'] w fun e w' => w' = w ∧ ∃ c : Int, e = .returned (.int .i64 c)) := fun h => count_c hS h.1 h.2.1 h.2.2
  have H9 : Hid (Bnd D cs → Calls Tryz.prog 9 #[.slice dao D.length dc] w fun e w' => ∃ ao c, e = .returned (.slice ao D.length c) ∧ Tx w' ao D ∧ D.length ≤ c ∧ c ≤ 9223372036854775807 ∧ Nwp w w' ao ∧ Kp (fun _ => False) w w') := fun h => cloneB_u hD h.1 hdn
  have H10 : Hid (Bnd D cs → ∀ W, Kp (fun _ => False) w W → Calls Tryz.prog 10 #[.slice co cs.length cc'] W fun e w' => ∃ ao c, e = .returned (.slice ao cs.length c) ∧ Sv w' ao cs ∧ cs.length ≤ c ∧ Nwp W w' ao ∧ Kp (fun _ => False) W w') := fun h W hk => cloneS_u (hS.kept hk (fun _ _ _ e => e)) h.2.1 hcn
  have H11 : Hid (Bnd D cs → ∀ W ao c, Tx W ao D → Calls Tryz.prog 11 #[.slice ao D.length c] W (NmPost W D)) := fun h W ao c hT => norm_c hT h.1
  have HF := hide hF
  have Hg := hide hg
  have HB := hide hB
  clear hF hD hl hS hcs hz hg hB hdn hcn
  go_enter Tryz.func4, Tryz.ntmps4
  go_wp2_with (first | (go_at_call 17; refine H17.out.mono ?_; rintro e w1 ⟨hw1, b, rfl, hb⟩; have Hb := hide hb; clear hb; subst w1) | (go_at_call 8; refine (H8.out (Hb.out (by assumption))).mono ?_; rintro e w1 ⟨hw1, c, rfl⟩; subst w1))
  any_goals (go_ret; exact ⟨rfl, Kp.refl _ _⟩)
  have HBd : Hid (Bnd D cs) := Hb.out (by assumption)
  clear H17 H8 Hb
  go_upto_region 10 with (first | (go_at_call 9; refine (H9.out HBd.out).mono ?_; rintro e w1 ⟨da, dcap, rfl, htx, hle, hcp, hnw, hk1⟩; have Htx := hide htx; have Hle := hide hle; have Hcp := hide hcp; have Hnw := hide hnw; have HK1 := hide hk1; clear htx hle hcp hnw hk1) | (go_at_call 10; refine (H10.out HBd.out _ HK1.out).mono ?_; rintro e w2 ⟨ca, ccap, rfl, hsv, hlc, hnc, hk2⟩; have Hsv := hide hsv; have Hlc := hide hlc; have Hnc := hide hnc; have HK2 := hide hk2; clear hsv hlc hnc hk2) | (go_at_call 11; refine (H11.out HBd.out _ _ _ (Htx.out.kept HK2.out)).mono ?_; rintro e w3 ⟨ta, tcap, rfl, hacc⟩; have Hacc := hide hacc; clear hacc))
  obtain ⟨ta', tc', hte, htx3, htl, htc, htn⟩ := Hacc.out.tx
  cases hte
  have HT3 := hide htx3
  have HK3 : Hid (Kp (fun _ => False) w w3) := (HK1.out.step HK2.out).step Hacc.out.kp
  have HK23 : Hid (Kp (fun _ => False) w2 w3) := Hacc.out.kp
  have hnb := norm_length (body D)
  have hbb := body_length D
  have hD1 := HBd.out.1
  have HNb : Hid ((body D).length ≤ 1048576) := by show (body D).length ≤ 1048576; omega
  obtain ⟨t, ht⟩ : ∃ t, norm (body D) = t := ⟨_, rfl⟩
  have H13 : Hid (∀ W, Kp (fun _ => False) w3 W → Calls Tryz.prog 13 #[.slice da D.length dcap, .slice ca cs.length ccap] W fun e w' => ∃ v b0 b1 b2 l c b3 b4 b5, e = .returned (.tuple #[v, .agg #[.bool b0, .bool b1, .bool b2, .int .i64 l, .string c, .bool b3, .bool b4, .bool b5]]) ∧ ZnQ W da (.slice ca cs.length ccap) cs ((body D).length + 2) ae (recd t 1) v b0 b1 b2 l c b3 b4 b5 w') := fun W hk => by
    have hkw : Kp (fun _ => False) w W := HK3.out.step hk
    have hk1 : Kp (fun _ => False) w1 W := (HK2.out.step HK23.out).step hk
    have hk2 : Kp (fun _ => False) w2 W := HK23.out.step hk
    have h := zzNewReader_c (B := B) (F := F) (w := W) (by rw [hkw.tape]; exact HF.out) (Htx.out.kept hk1) hD1 Hle.out Hcp.out (Hsv.out.kept hk2 (fun _ _ _ e => e)) HBd.out.2.1 HBd.out.2.2 Hlc.out (Hg.out.kept hkw (fun _ _ e => e)) (Nat.le_trans HB.out hkw.size) (fun b o e => Nat.lt_of_lt_of_le (Hnw.out b o e).2 hk1.size)
    rw [ht] at h
    exact h.mono (fun e w' hp => hp.q)
  rw [ht] at htl HT3 hnb ⊢
  have htm : t.length ≤ 1048576 := by omega
  have H12 : Hid (∀ (W : World) (p ln : Nat), Tx W ta t → p ≤ t.length → ln ≤ 2000000 → Calls Tryz.prog 12 #[.slice ta t.length tcap, .int .i64 p, .int .i64 ln] W (RcPost W t (recd (t.drop p) ln))) := fun W p ln hT hp hln => record_c hT htm htl htc hp hln
  have H12a : Hid (Calls Tryz.prog 12 #[.slice ta t.length tcap, .int .i64 0, .int .i64 1] w3 fun e w' => ∃ ha hcap, ∃ p : Nat, e = .returned (.tuple #[.slice ha (fsb (recd t 1).1.fs).length hcap, .int .i64 (recd t 1).2, .int .i64 p, .int .i64 (recd t 1).1.ln, .int .i64 (recd t 1).1.oc]) ∧ p ≤ t.length ∧ t.drop p = (recd t 1).1.rest ∧ Sv w' ha (fsb (recd t 1).1.fs) ∧ Kp (fun _ => False) w3 w') := by
    have h := H12.out w3 0 1 HT3.out (Nat.zero_le _) (by omega)
    rw [List.drop_zero] at h
    refine h.mono ?_
    rintro e w' ⟨fv, p, rfl, h1, h2, h3⟩
    obtain ⟨ha, hcap, rfl, h4, _⟩ := h3.sv
    exact ⟨ha, hcap, p, rfl, h1, h2, h4, h3.kp⟩
  have Hrb := hide (recd_rb t 1)
  have Hfz := hide (recd_fz t 1)
  obtain ⟨X, hX⟩ : ∃ X, recd t 1 = X := ⟨_, rfl⟩
  rw [hX] at H13 H12a Hrb Hfz
  obtain ⟨m, hm⟩ : ∃ m, m = t.length := ⟨_, rfl⟩
  rw [← hm] at htl hnb htm H12 H12a ⊢
  have Hm := hide hm
  obtain ⟨dl, hdl⟩ : ∃ dl, dl = D.length := ⟨_, rfl⟩
  obtain ⟨cl, hcl⟩ : ∃ cl, cl = cs.length := ⟨_, rfl⟩
  obtain ⟨hn, hhn⟩ : ∃ hn, hn = (fsb X.1.fs).length := ⟨_, rfl⟩
  obtain ⟨oi, hoi⟩ : ∃ oi : Int, oi = (X.1.oc : Int) := ⟨_, rfl⟩
  rw [← hoi] at H12a
  have Hoi := hide hoi
  clear hoi
  have HSv3 : Hid (Sv w3 ca cs) := Hsv.out.kept HK23.out (fun _ _ _ e => e)
  have Hda : Hid (∀ b o, da = some ⟨b, o, none⟩ → b < w3.heap.size) := fun b o e => Nat.lt_of_lt_of_le (Hnw.out b o e).2 (HK2.out.step HK23.out).size
  have Hca : Hid (∀ b o, ca = some ⟨b, o, none⟩ → b < w3.heap.size) := fun b o e => Nat.lt_of_lt_of_le (Hnc.out b o e).2 HK23.out.size
  have Hta : Hid (∀ b o, ta = some ⟨b, o, none⟩ → b < w3.heap.size) := fun b o e => (htn b o e).2
  have HG3 : Hid (Gw B w3 ae ab aq abq) := Hg.out.kept HK3.out (fun _ _ e => e)
  have HB3 : Hid (B ≤ w3.heap.size) := Nat.le_trans HB.out HK3.out.size
  rw [← hdl, ← hcl] at H13 ⊢
  rw [← hhn] at H12a
  have Hcl := hide hcl
  have Hhn := hide hhn
  clear htx3 htc htn ht hX hm hdl hcl hhn hbb hD1 Hsv Hle Hcp Hlc Hnw Hnc HK1 HK2 HK23 Htx Hacc H9 H10 H11 hnb htl HF Hg HB
  go_upto_region 10 with (first | (go_at_call 12; refine H12a.out.mono ?_; rintro e w4 ⟨ha, hcap, p, rfl, hpm, hpd, hsvh, hk4⟩; have Hpm := hide hpm; have Hpd := hide hpd; have Hsvh := hide hsvh; have HK4 := hide hk4; clear hpm hpd hsvh hk4) | (go_at_call 13; refine (H13.out _ HK4.out).mono ?_; rintro e w5 ⟨v, b0, b1, b2, l, c, b3, b4, b5, rfl, hzq⟩; have Hzq := hide hzq; clear hzq))
  obtain ⟨hk5, hcase⟩ := Hzq.out
  have HK5 := hide hk5
  have Hcase := hide hcase
  clear hk5 hcase Hzq
  have HS5 : Hid (∀ o, Sv (w5.alloc o) ha (fsb X.1.fs)) := fun o => Hsvh.out.kept (HK5.out.alloc o) (fun _ _ _ e => e)
  have HC5 : Hid (∀ o, Sv (w5.alloc o) ca cs) := fun o => HSv3.out.kept ((HK4.out.step HK5.out).alloc o) (fun _ _ _ e => e)
  have hh1 : (fsb X.1.fs).length ≤ 4000000 := by rw [fsb_length]; have := Hfz.out.1; rw [← Hm.out] at this; omega
  have hh2 : cs.length ≤ 4000000 := by have := HBd.out.2.1; omega
  have Hh1 := hide hh1
  have Hh2 := hide hh2
  clear hh1 hh2
  rcases Hcase.out with ⟨k1, rfl, rfl, rfl, rfl, rfl, rfl, rfl, rfl, rfl⟩ | ⟨k1, rfl, rfl, rfl, rfl, rfl, rfl, rfl, rfl, rfl⟩ | ⟨k1, kne, rfl, rfl, rfl, rfl, rfl, rfl, rfl, rfl, rfl⟩ | ⟨k1, keq, rfl, rfl, rfl, rfl, rfl, rfl, rfl, rfl, nB, T, rfl, hrdr⟩
  · obtain rfl : oi = 1 := by rw [Hoi.out, k1]; rfl
    have H14 : Hid (∀ o, Calls Tryz.prog 14 #[.slice ha hn hcap, .int .i64 X.2, .int .i64 1, .slice ca cl ccap, .bool true, .agg #[.bool false, .bool false, .bool false, .int .i64 0, .string .empty, .bool false, .bool false, .bool false]] (w5.alloc o) fun e w' => e = .returned (.bool true) ∧ Kp (fun _ => False) (w5.alloc o) w') := fun o => hdr_eof (w5.alloc o) _ _ _
    clear Hcase k1 Hoi
    go_wp2_with ((go_at_call 14; refine (H14.out _).mono ?_; rintro e w6 ⟨rfl, hk6⟩))
    go_ret
    exact ⟨rfl, (((HK3.out.step HK4.out).step HK5.out).alloc _).step hk6⟩
  · have hq : (oi == 2) = (X.1.oc == 2) := by rcases k1 with e | e <;> rw [Hoi.out, e] <;> rfl
    have hb : (oi == 3) = (X.1.oc == 3) := by rcases k1 with e | e <;> rw [Hoi.out, e] <;> rfl
    have h1 : (oi == 1) = false := by rcases k1 with e | e <;> rw [Hoi.out, e] <;> rfl
    have h0 : (oi == 0) = false := by rcases k1 with e | e <;> rw [Hoi.out, e] <;> rfl
    have H14 : Hid (∀ o, Calls Tryz.prog 14 #[.slice ha hn hcap, .int .i64 X.2, .int .i64 oi, .slice ca cl ccap, .bool true, .agg #[.bool false, .bool false, .bool true, .int .i64 X.2, .string .empty, .bool false, .bool (X.1.oc == 2), .bool (X.1.oc == 3)]] (w5.alloc o) fun e w' => e = .returned (.bool true) ∧ Kp (fun _ => False) (w5.alloc o) w') := fun o => hdr_fault (w5.alloc o) _ _ _ oi _ _ h1 h0 hq hb
    clear Hcase k1 Hoi hq hb h1 h0
    go_wp2_with ((go_at_call 14; refine (H14.out _).mono ?_; rintro e w6 ⟨rfl, hk6⟩))
    go_ret
    exact ⟨rfl, (((HK3.out.step HK4.out).step HK5.out).alloc _).step hk6⟩
  · obtain rfl : oi = 0 := by rw [Hoi.out, k1]; rfl
    have H14 : Hid (∀ o, Calls Tryz.prog 14 #[.slice ha hn hcap, .int .i64 X.2, .int .i64 0, .slice ca cl ccap, .bool true, .agg #[.bool false, .bool false, .bool true, .int .i64 X.2, .string .empty, .bool false, .bool false, .bool false]] (w5.alloc o) fun e w' => e = .returned (.bool true) ∧ Kp (fun _ => False) (w5.alloc o) w') := fun o => by
      rw [Hhn.out, Hcl.out]
      exact hdr_other (HS5.out o) (HC5.out o) Hh1.out Hh2.out kne _
    clear Hcase k1 Hoi kne
    go_wp2_with ((go_at_call 14; refine (H14.out _).mono ?_; rintro e w6 ⟨rfl, hk6⟩))
    go_ret
    exact ⟨rfl, (((HK3.out.step HK4.out).step HK5.out).alloc _).step hk6⟩
  · obtain rfl : oi = 0 := by rw [Hoi.out, k1]; rfl
    have H14 : Hid (∀ o, Calls Tryz.prog 14 #[.slice ha hn hcap, .int .i64 X.2, .int .i64 0, .slice ca cl ccap, .bool false, .agg #[.bool true, .bool false, .bool false, .int .i64 0, .string .empty, .bool false, .bool false, .bool false]] (w5.alloc o) fun e w' => e = .returned (.bool true) ∧ Kp (fun _ => False) (w5.alloc o) w') := fun o => by
      rw [Hhn.out, Hcl.out]
      exact hdr_same (HS5.out o) (HC5.out o) Hh1.out Hh2.out keq _
    have Hrdr := hide hrdr
    have Hk1 := hide k1
    clear Hcase k1 Hoi keq hrdr
    go_wp2_with ((go_at_call 14; refine (H14.out _).mono ?_; rintro e w6 ⟨rfl, hk6⟩; have HK6 := hide hk6; clear hk6))
    have HR0 : Hid (LR w6 w4.heap.size nB da (.slice ca cl ccap) t ((body D).length + 2) ae p 0 X.1.ln w6) := by
      have hx := ((Kp.refl (fun _ => False) w5).alloc _).step HK6.out
      refine ⟨⟨T, ?_⟩, Kp.refl _ _, ?_⟩
      · rw [Hpd.out]
        exact Hrdr.out.quiet hx
      · rw [Hpd.out, Hrb.out.nl]
        have := nls_le t
        omega
    have HKw : Hid (∀ wx, Kp (fun j => w4.heap.size ≤ j) w6 wx → Kp (fun _ => False) w wx) := fun wx h => by
      have h6 := (((HK3.out.step HK4.out).step HK5.out).alloc _).step HK6.out
      have hs := (HK3.out.step HK4.out).size
      exact h6.trans (h.mono (fun j _ e => .inr (Nat.le_trans hs e)))
    have HK46 : Hid (Kp (fun _ => False) w4 w6) := (HK5.out.alloc _).step HK6.out
    have HG6 : Hid (Gw w4.heap.size w6 ae ab aq abq) := ((HG3.out.kept HK4.out (fun _ _ e => e)).kept HK46.out (fun _ _ e => e)).up (Nat.le_trans HB3.out HK4.out.size)
    have HT6 : Hid (Tx w6 ta t) := (HT3.out.kept HK4.out).kept HK46.out
    have HC6 : Hid (Sv w6 ca cs) := (HSv3.out.kept HK4.out (fun _ _ _ e => e)).kept HK46.out (fun _ _ _ e => e)
    have HNb2 : Hid ((body D).length + 2 ≤ 1048578) := by have := HNb.out; show (body D).length + 2 ≤ 1048578; omega
    obtain ⟨N, hN⟩ : ∃ N, N = (body D).length + 2 := ⟨_, rfl⟩
    rw [← hN] at HR0 HNb2
    obtain ⟨B2, hB2⟩ : ∃ B2, B2 = w4.heap.size := ⟨_, rfl⟩
    have Hta2 : Hid (∀ b o, ta = some ⟨b, o, none⟩ → b < B2) := fun b o e => by rw [hB2]; exact Nat.lt_of_lt_of_le (Hta.out b o e) HK4.out.size
    have Hca2 : Hid (∀ b o, ca = some ⟨b, o, none⟩ → b < B2) := fun b o e => by rw [hB2]; exact Nat.lt_of_lt_of_le (Hca.out b o e) HK4.out.size
    have Hda2 : Hid (∀ b o, da = some ⟨b, o, none⟩ → b < B2) := fun b o e => by rw [hB2]; exact Nat.lt_of_lt_of_le (Hda.out b o e) HK4.out.size
    have HB26 : Hid (B2 ≤ w6.heap.size) := by rw [hB2]; exact HK46.out.size
    rw [← hB2] at HR0 HKw HG6
    have hpm := Hpm.out
    have htm' : (m : Int) ≤ 1048576 := by omega
    clear hN hB2 H14 Hrdr Hk1 HS5 HC5 Hh1 H12a H13 Hsvh HK4 HK5 HK6 HK46 Hpm Hpd HT3 HSv3 HG3 HB3 Hta Hca Hda Hfz Hrb HNb HK3
    go_loopg [8, 9, 14] (m + 2) (fun gk s8 s9 s14 wr => ∃ p ln k : Nat, s8 = .int .i64 p ∧ s9 = .int .i64 ln ∧ s14 = .int .i64 k ∧ p ≤ m ∧ k + (m - p) ≤ m ∧ gk = m + 2 - k ∧ Hid (LR w6 B2 nB da (.slice ca cl ccap) t N ae p k ln wr))
    case atStart => exact ⟨p, X.1.ln, 0, rfl, rfl, rfl, hpm, by omega, rfl, HR0.out⟩
    case round =>
      clear HR0 hpm
      obtain ⟨p1, ln1, k, rfl, rfl, rfl, hp1, hkp, rfl, hLR⟩ := hrel
      obtain ⟨⟨T1, hrd⟩, hkr, hlnb⟩ := hLR.out
      have Hrd := hide hrd
      have HKr := hide hkr
      have Hlnb := hide hlnb
      clear hLR hrd hkr hlnb
      have hk1 : (k : Int) ≤ m + 1 := by omega
      have hk2 : (k : Int) ≤ 1048576 := by omega
      have HBr : Hid (B2 ≤ wr.heap.size) := Nat.le_trans HB26.out HKr.out.size
      have HGr : Hid (Gw B2 wr ae ab aq abq) := HG6.out.kept HKr.out (fun j hj e => by omega)
      have HTr : Hid (Tx wr ta t) := HT6.out.keptF HKr.out (fun b o e hb => by have := Hta2.out b o e; omega)
      have HCr : Hid (Sv wr ca cs) := HC6.out.kept HKr.out (fun b o e hb => by have := Hca2.out b o e; omega)
      have Hrb2 := hide (recd_rb (t.drop p1) ln1)
      have Hfz2 := hide (recd_fz (t.drop p1) ln1)
      have H12b : Hid (Calls Tryz.prog 12 #[.slice ta m tcap, .int .i64 p1, .int .i64 ln1] wr fun e w' => ∃ fa fcap, ∃ p' : Nat, e = .returned (.tuple #[.slice fa (fsb (recd (t.drop p1) ln1).1.fs).length fcap, .int .i64 (recd (t.drop p1) ln1).2, .int .i64 p', .int .i64 (recd (t.drop p1) ln1).1.ln, .int .i64 (recd (t.drop p1) ln1).1.oc]) ∧ p' ≤ m ∧ t.drop p' = (recd (t.drop p1) ln1).1.rest ∧ Sv w' fa (fsb (recd (t.drop p1) ln1).1.fs) ∧ (∀ b o, fa = some ⟨b, o, none⟩ → wr.heap.size ≤ b ∧ b < w'.heap.size) ∧ Kp (fun _ => False) wr w') := by
        have hln : ln1 ≤ 2000000 := by have := Hlnb.out; rw [← Hm.out] at this; omega
        refine (H12.out wr p1 ln1 HTr.out hp1 hln).mono ?_
        rintro e w' ⟨fv, p', rfl, h1, h2, h3⟩
        obtain ⟨fa, fcap, rfl, h4, h5⟩ := h3.sv
        exact ⟨fa, fcap, p', rfl, by rw [Hm.out]; exact h1, h2, h4, h5, h3.kp⟩
      have H18 : Hid (∀ W, Kp (fun _ => False) wr W → Calls Tryz.prog 18 #[.pointer (some ⟨nB, 0, none⟩)] W fun e w' => ∃ v b0 b1 b2 l c b3 b4 b5, e = .returned (.tuple #[v, .agg #[.bool b0, .bool b1, .bool b2, .int .i64 l, .string c, .bool b3, .bool b4, .bool b5]]) ∧ ZxQ B2 W T1 nB da (.slice ca cl ccap) (N + 2 * k) ae (recd (t.drop p1) ln1) v b0 b1 b2 l c b3 b4 b5 w') := fun W hk => by
        refine (zzNext_c (Hrd.out.quiet hk) (HGr.out.kept hk (fun _ _ e => e)) (Nat.le_trans HBr.out hk.size) (by have := HNb2.out; omega) (fun b o e => ?_)).mono (fun e w' hp => hp.q)
        exact Nat.lt_of_lt_of_le (Hda2.out b o e) (Nat.le_trans HBr.out hk.size)
      obtain ⟨Y, hY⟩ : ∃ Y, recd (t.drop p1) ln1 = Y := ⟨_, rfl⟩
      rw [hY] at H12b H18 Hrb2 Hfz2
      obtain ⟨oi, hoi⟩ : ∃ oi : Int, oi = (Y.1.oc : Int) := ⟨_, rfl⟩
      obtain ⟨yn, hyn⟩ : ∃ yn, yn = (fsb Y.1.fs).length := ⟨_, rfl⟩
      rw [← hoi, ← hyn] at H12b
      have Hoi := hide hoi
      have Hyn := hide hyn
      clear hoi hyn hY
      go_upto_region 18 with (first | (go_at_call 12; refine H12b.out.mono ?_; rintro e w7 ⟨fa, fcap, p2, rfl, hp2, hpd2, hsv7, hfa, hk7⟩; have Hpd2 := hide hpd2; have Hsv7 := hide hsv7; have Hfa := hide hfa; have HK7 := hide hk7; clear hpd2 hsv7 hfa hk7) | (go_at_call 18; refine (H18.out _ HK7.out).mono ?_; rintro e w8 ⟨v, b0, b1, b2, l, c, b3, b4, b5, rfl, hzq⟩; have Hzq := hide hzq; clear hzq))
      obtain ⟨T2, hr8, hk8, ho8, hcase⟩ := Hzq.out
      have Hr8 := hide hr8
      have HK8 : Hid (Kp (fun j => B2 ≤ j) w6 w8) := (HKr.out.up HK7.out (fun _ e => e.elim)).up hk8 Hrd.out.fa
      have Hf8 : Hid (Sv w8 fa (fsb Y.1.fs)) := Hsv7.out.kept hk8 (fun b o e hb => hb (Hrd.out.tlt (Hfa.out b o e).1))
      have HC8 : Hid (Sv w8 ca cs) := HC6.out.kept HK8.out (fun b o e hb => by have := Hca2.out b o e; omega)
      have Hcase := hide hcase
      clear hr8 hk8 ho8 hcase Hzq H12b H18
      rcases Hcase.out with ⟨k1, rfl, rfl, rfl, rfl, rfl, rfl, rfl, rfl, rfl⟩ | ⟨k1, rfl, rfl, rfl, rfl, rfl, rfl, rfl, rfl, lB, fv, rfl, hb8, tl8, hs8⟩ | ⟨k1, rfl, rfl, rfl, rfl, rfl, rfl, rfl, rfl, rfl⟩
      · obtain rfl : oi = 1 := by rw [Hoi.out, k1]; rfl
        clear Hcase k1 Hoi
        go_wp2
        go_ret
        exact ⟨rfl, HKw.out _ (HK8.out.up ((Kp.refl (fun _ => False) w8).alloc _) (fun _ e => e.elim))⟩
      · obtain rfl : oi = 0 := by rw [Hoi.out, k1]; rfl
        have hlt := Hrb2.out.lt (by omega)
        rw [← Hpd2.out, List.length_drop, List.length_drop, ← Hm.out] at hlt
        obtain ⟨gb, gcap, rfl, hgc, hgb, hsg⟩ := hs8.sv
        have n0 : w8.cell? ⟨lB, 0, none⟩ = some (.int .i64 Y.2) := hb8.cell rfl
        have lt8 : lB < w8.heap.size := hb8.lt
        have H21 : Hid (∀ W, Kp (fun _ => False) w8 W → Calls Tryz.prog 21 #[.pointer (some ⟨lB, 0, none⟩)] W fun e w' => e = .returned (.slice (some ⟨gb, 0, none⟩) Y.1.fs.length gcap) ∧ w' = W) := fun W hk => lineFields_c (hb8.kept hk (fun e => e))
        have H22 : Hid (∀ W, Kp (fun _ => False) w8 W → Calls Tryz.prog 22 #[.pointer (some ⟨lB, 0, none⟩)] W fun e w' => e = .returned (.slice ca cl ccap) ∧ w' = W) := fun W hk => lineColumns_c (hb8.kept hk (fun e => e))
        have H20 : Hid (∀ (v1 v2 : Value) (W : World), ((v1 = .slice (some ⟨gb, 0, none⟩) Y.1.fs.length gcap ∧ v2 = .slice fa yn fcap) ∨ (v1 = .slice ca cl ccap ∧ v2 = .slice ca cl ccap)) → Kp (fun _ => False) w8 W → Calls Tryz.prog 20 #[v1, v2] W fun e w' => e = .returned (.bool true) ∧ ∃ q, w' = W.drewN q) := fun v1 v2 W hv hk => by
          have hfl : (fsb Y.1.fs).length ≤ 4000000 := by
            rw [fsb_length]
            have := Hfz2.out.1
            rw [List.length_drop, ← Hm.out] at this
            omega
          rcases hv with ⟨rfl, rfl⟩ | ⟨rfl, rfl⟩
          · rw [Hyn.out, ← fsb_length]
            refine (equalS_c (hsg.kept hk (fun _ _ _ e => e)) (Hf8.out.kept hk (fun _ _ _ e => e)) hfl hfl).mono ?_
            rintro e w' ⟨⟨Bq, rfl, hB⟩, hk2⟩
            rw [hB.2 rfl]
            exact ⟨rfl, hk2⟩
          · rw [Hcl.out]
            refine (equalS_c (HC8.out.kept hk (fun _ _ _ e => e)) (HC8.out.kept hk (fun _ _ _ e => e)) Hh2.out Hh2.out).mono ?_
            rintro e w' ⟨⟨Bq, rfl, hB⟩, hk2⟩
            rw [hB.2 rfl]
            exact ⟨rfl, hk2⟩
        obtain ⟨yf, hyf⟩ : ∃ yf, yf = Y.1.fs.length := ⟨_, rfl⟩
        rw [← hyf] at H21 H20
        clear Hcase k1 Hoi hb8 tl8 hs8 hgc hgb hsg hyf
        go_wp2_with (first | (go_at_call 21; refine (H21.out _ (by exact (Kp.refl _ _).alloc _)).mono ?_; rintro e w9 ⟨rfl, rfl⟩) | (go_at_call 22; refine (H22.out _ (by first | exact (Kp.refl _ _).alloc _ | exact ((Kp.refl _ _).alloc _).drewN _)).mono ?_; rintro e w9 ⟨rfl, rfl⟩) | (go_at_call 20; refine (H20.out _ _ _ (by first | exact .inl ⟨rfl, rfl⟩ | exact .inr ⟨rfl, rfl⟩) (by first | exact (Kp.refl _ _).alloc _ | exact ((Kp.refl _ _).alloc _).drewN _)).mono ?_; rintro e w9 ⟨rfl, q, rfl⟩))
        go_roundg (m + 2 - (k + 1))
        case measure => omega
        case rel => exact ⟨p2, Y.1.ln, k + 1, rfl, rfl, by go_num, hp2, by omega, rfl, LR.next Hr8.out HK8.out (by first | exact (((Kp.refl _ _).alloc _).drewN _).drewN _ | exact ((Kp.refl _ _).alloc _).drewN _) Hpd2.out Hrb2.out Hlnb.out⟩
      · have hq : (oi == 2) = (Y.1.oc == 2) := by rcases k1 with e | e <;> rw [Hoi.out, e] <;> rfl
        have hb : (oi == 3) = (Y.1.oc == 3) := by rcases k1 with e | e <;> rw [Hoi.out, e] <;> rfl
        have h1 : (oi == 1) = false := by rcases k1 with e | e <;> rw [Hoi.out, e] <;> rfl
        have h0 : (oi != 0) = true := by rcases k1 with e | e <;> rw [Hoi.out, e] <;> rfl
        have hlt := Hrb2.out.lt (by omega)
        rw [← Hpd2.out, List.length_drop, List.length_drop, ← Hm.out] at hlt
        have H19 : Hid (∀ W, Calls Tryz.prog 19 #[.agg #[.bool false, .bool false, .bool true, .int .i64 Y.2, .string .empty, .bool false, .bool (Y.1.oc == 2), .bool (Y.1.oc == 3)], .int .i64 Y.2, .string ⟨#[]⟩, .int .i64 oi] W fun e w' => e = .returned (.bool true) ∧ Kp (fun _ => False) W w') := fun W => fieldErr_c W Y.2 .empty oi _ _ hq hb
        obtain ⟨q1, hq1⟩ : ∃ q1, q1 = (Y.1.oc == 2) := ⟨_, rfl⟩
        obtain ⟨q2, hq2⟩ : ∃ q2, q2 = (Y.1.oc == 3) := ⟨_, rfl⟩
        rw [← hq1, ← hq2] at H19 ⊢
        clear Hcase k1 Hoi hq hb hq1 hq2
        go_wp2_with ((go_at_call 19; refine (H19.out _).mono ?_; rintro e w9 ⟨rfl, hk9⟩; have HK9 := hide hk9; clear hk9))
        go_roundg (m + 2 - (k + 1))
        case measure => omega
        case rel => exact ⟨p2, Y.1.ln, k + 1, rfl, rfl, by go_num, hp2, by omega, rfl, LR.next Hr8.out HK8.out (((Kp.refl _ _).alloc _).step HK9.out) Hpd2.out Hrb2.out Hlnb.out⟩
end Go.Proofs.Qxb6615582aGreatFmt
