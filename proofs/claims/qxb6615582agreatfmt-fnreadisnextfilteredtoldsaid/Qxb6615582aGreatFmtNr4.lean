import Derived.Test.Qxb6615582aGreatFmtNr3
import Derived.Deep.RegionHeld3
import Derived.Deep.DeepCutAuto
namespace Go.Proofs.Qxb6615582aGreatFmt
open Go.RowKit
attribute [local go_sem] Go.wp_at_zero Go.wp_at_succ

def preO : Obj := .cells #[.int .u8 239, .int .u8 187, .int .u8 191] 5 (3, 4)
theorem body_length (D : Bs) : (body D).length ≤ D.length := by
  unfold body
  split
  · rw [List.length_drop]; omega
  · exact Nat.le_refl _
section
variable {sb : Option Addr} {w w1 wx : World} {T0 T' : Nat → Nat} {cols : Value} {cs : List ByteArray} {N B nB : Nat} {ae aq abq : Addr} {X : Out × Nat}
theorem nr_kp {pre : Obj} {ao : Option Addr} {n cap : Nat} (hk : Kp (Fa T0) (nrW w pre ao n cap cols) w1) (hT : ∀ k, k < w.heap.size → T0 k = 0) : Kp (fun _ => False) w w1 :=
  (nrW_kp w pre ao n cap cols).trans (hk.mono (fun k _ e => by
    rcases Nat.lt_or_ge k w.heap.size with h | h
    · exact absurd (hT k h) e
    · exact .inr h))
theorem nr_eof (hk : Kp (fun _ => False) w w1) (h1 : X.1.oc = 1) (S : ByteArray) (e1 : wx.heap = (w1.alloc (.cells #[.string S] 97)).heap) (e2 : wx.os = w1.os) (e3 : wx.tape = w1.tape) (e4 : wx.output = w1.output) : NrPost w sb cols cs N ae aq abq X (.returned (.tuple #[.pointer none, .iface 95 (.pointer (some ⟨w1.heap.size, 0, none⟩))])) wx :=
  ⟨_, _, rfl, Kp.heap (hk.alloc _) e1 e2 e3 e4, .inl ⟨h1, rfl, _, S, hk.size, rfl, (Blk.new w1 97 #[.string S]).heap e1⟩⟩
end
theorem Kp.step {a b c : World} (h : Kp (fun _ => False) a b) (k : Kp (fun _ => False) b c) : Kp (fun _ => False) a c := h.trans (k.mono (fun _ _ e => e.elim))
set_option maxRecDepth 100000 in
theorem bytesNew_c (w : World) (ao : Option Addr) (n cap : Nat) : Calls Tryz.prog 37 #[.slice ao n cap] w fun e w' => e = .returned (.pointer (some ⟨w.heap.size, 0, none⟩)) ∧ w' = w.alloc (.cells #[.slice ao n cap, .int .i64 0, .int .i64 (-1)] 93) := by
  go_enter Tryz.func37, Tryz.ntmps37
  go_wp2
  go_ret
  exact ⟨rfl, rfl⟩
set_option maxRecDepth 100000 in
set_option maxHeartbeats 4000000 in
/-- NewReader. -/
theorem newReader_c {B : Nat} {w : World} {F : Go.Stop.Interp} (hF : F.answers w.tape) {dao : Option Addr} {D : Bs} {dc : Nat} (hD : Tx w dao D) (hl : D.length ≤ 1048576) (hc : D.length ≤ dc) (hc2 : dc ≤ 9223372036854775807)
    {co : Option Addr} {cc' : Nat} {cs : List ByteArray} (hS : Sv w co cs) (hcs : cs.length ≤ 1048576) (hz : ∀ s ∈ cs, s.size ≤ 1048576) (hcc : cs.length ≤ cc') {ae ab aq abq : Addr} (hg : Gw B w ae ab aq abq) (hB : B ≤ w.heap.size) :
    Calls Tryz.prog 29 #[.slice dao D.length dc, .slice co cs.length cc'] w (NrPost w dao (.slice co cs.length cc') cs ((body D).length + 2) ae aq abq (recd (norm (body D)) 1)) := by
  have hbl := body_length D
  have hbp : ∀ j, (w.alloc preO).cell? ⟨w.heap.size, j, none⟩ = #[(.int .u8 239 : Value), .int .u8 187, .int .u8 191][j]? := fun j => Joins.cell_alloc_mark_at w _ 5 (3, 4) _ j rfl
  have hcv := Joins.run_convert_bytes_const_at (P := Tryz.prog) w 22 5 #[.int .u8 239, .int .u8 187, .int .u8 191] 3 3 w.heap.size rfl Tryz.underlying22 Tryz.underlying5
  have hkp : Kp (fun _ => False) w (w.alloc preO) := (Kp.refl _ w).alloc _
  have HT := hide (trim_c (hD.kept hkp) hl hc hc2 (hbp 0) (hbp 1) (hbp 2))
  obtain ⟨m, hm⟩ : ∃ m, m = cs.length := ⟨_, rfl⟩
  have HN : Hid (∀ ao cap, Tx (w.alloc preO) ao (body D) → (body D).length ≤ cap → cap ≤ 9223372036854775807 → (body D ≠ [] → ∀ b o, ao = some ⟨b, o, none⟩ → ∃ o', dao = some ⟨b, o', none⟩) → Calls Tryz.prog 32 #[.pointer (some ⟨w.heap.size + 1 + 1 + 1 + 1 + 1, 0, none⟩)] (nrW w preO ao (body D).length cap (.slice co m cc')) (NvPost (w.heap.size + 1) (nrW w preO ao (body D).length cap (.slice co m cc')) (tg (w.heap.size + 1)) (w.heap.size + 5) dao (.slice co m cc') (body D).length ae aq abq (recd (norm (body D)) 1))) := fun ao cap h1 h2 h3 h4 => by
    obtain ⟨hn, hnb⟩ := nrW_nw (cols := .slice co m cc') h1 (by omega) h2 h3
    have hr := hn.rdr ae hnb (by omega) h4
    have hs : (w.alloc preO).heap.size = w.heap.size + 1 := by simp
    rw [hs] at hr
    have hgk := (hg.kept (nrW_kp w preO ao (body D).length cap (.slice co m cc')) (fun _ _ e => e))
    have hg2 : Gw (w.heap.size + 1) (nrW w preO ao (body D).length cap (.slice co m cc')) ae ab aq abq := ⟨hgk.e0, hgk.e8, hgk.e1, hgk.e2, hgk.ne, hgk.neq, hgk.tabs, hgk.h5, by have := hgk.lt; omega, by obtain ⟨a1, a2, a3, a4⟩ := hgk.la; exact ⟨by omega, by omega, by omega, by omega⟩⟩
    exact nextR_c hr hg2 (by show w.heap.size + 1 ≤ _; have := hnb.lt; omega) (by omega)
  obtain ⟨n, hn⟩ : ∃ n, n = (body D).length := ⟨_, rfl⟩
  obtain ⟨X, hX⟩ : ∃ X, recd (norm (body D)) 1 = X := ⟨_, rfl⟩
  have hfz : X.1.fs.length ≤ 1048577 ∧ ∀ f ∈ X.1.fs, f.length ≤ 1048576 := by
    have h1 := recd_fz (norm (body D)) 1
    have h2 := norm_length (body D)
    rw [hX] at h1
    exact ⟨by omega, fun f hf => by have := h1.2 f hf; omega⟩
  rw [hX, ← hn] at HN
  rw [hX, ← hn, ← hm]
  have HTP : Hid (∀ e w', TpPost (w.alloc preO) dao D e w' → w' = w.alloc preO ∧ ∃ ao cap, e = .returned (.slice ao n cap) ∧ Tx (w.alloc preO) ao (body D) ∧ n ≤ cap ∧ cap ≤ 9223372036854775807 ∧ (body D ≠ [] → ∀ b o, ao = some ⟨b, o, none⟩ → ∃ o', dao = some ⟨b, o', none⟩)) := by
    intro e w' h
    rw [hn]; exact h
  have Hfz := hide hfz
  have Hg := hide hg
  have HF := hide hF
  have HS := hide hS
  have Hz := hide hz
  have Hm := hide hm
  rw [← hm] at hcs hcc
  have Hcs := hide hcs
  have Hcc := hide hcc
  have HB := hide hB
  have hbl' : D.length = D.length := rfl
  obtain ⟨dl, hdl⟩ : ∃ dl, dl = D.length := ⟨_, rfl⟩
  rw [← hdl] at HT ⊢
  clear hD hl hc hc2 hS hcs hz hcc hg hB hF hbl hbp hkp hm hX hfz hn hbl' hdl
  go_enter Tryz.func29, Tryz.ntmps29
  go_upto_region 4 with (first | (go_at_call 38; refine HT.out.mono ?_; rintro e w1 hp; obtain ⟨rfl, ao, cap, rfl, htx, hle, hcp, hsb⟩ := HTP.out _ _ hp; have Htx := hide htx; have Hsb := hide hsb; clear htx hp hsb) | (go_at_call 37; refine (bytesNew_c _ _ _ _).mono ?_; rintro e w1 ⟨rfl, rfl⟩) | (go_at_call 36; refine (csvNew_c _ _).mono ?_; rintro e w1 ⟨rfl, rfl⟩) | (go_at_call 32; refine (HN.out _ _ Htx.out hle hcp Hsb.out).mono ?_; rintro e w1 hp; obtain ⟨v, ve, T1, rfl, hrdr, hkp, hold, hcase⟩ := hp; have Hrdr := hide hrdr; have Hkp := hide hkp; have Hold := hide hold; have Hcase := hide hcase; clear hrdr hkp hold hcase))
  have HK : Hid (Kp (fun _ => False) w w1) := nr_kp Hkp.out (fun k hk => tg_low (by omega))
  have G1 := Hg.out.kept HK.out (fun _ _ e => e)
  have g0 : w1.cell? ⟨0, 0, none⟩ = some (.iface 95 (.pointer (some ae))) := G1.e0.cell
  have HG1 := hide G1
  clear G1 HN HT HTP hcv hle hcp Htx Hsb Hkp Hold
  rcases Hcase.out with ⟨k1, k2, k3⟩ | ⟨k1, k2, lB, fv, k3, k4, k5, k6, _, _⟩ | ⟨k1, fe, a, k2, k3, k4, k5⟩
  · unfold ev at k2
    subst k2 k3
    have hq := Er.same (w := w1) ae
    have Hk1 := hide k1
    clear k1 Hcase
    go_wp2
    go_ret2
    exact nr_eof HK.out Hk1.out _ rfl rfl rfl rfl
  · subst k2 k3
    obtain ⟨fb, fcap, hv, hfc, hfb, hsv⟩ := k6.sv
    subst hv
    have l1 : w1.cell? ⟨lB, 1, none⟩ = some (.slice (some ⟨fb, 0, none⟩) X.1.fs.length fcap) := k4.cell rfl
    have hq := Er.nil (w := w1) ae
    have HS1 : Hid (Sv w1 co cs) := HS.out.kept HK.out (fun _ _ _ e => e)
    have HE : Hid (Calls Tryz.prog 40 #[.slice (some ⟨fb, 0, none⟩) X.1.fs.length fcap, .slice co m cc'] w1 (EqS w1 (fsb X.1.fs) cs)) := by
      have h1 := Hfz.out.1
      have h2 := Hcs.out
      have := equal40_c (ca := fcap) (cb := cc') hsv HS1.out (by rw [fsb_length]; omega) (by rw [← Hm.out]; omega)
      rw [fsb_length, ← Hm.out] at this
      exact this
    have HJ1 : Hid (∃ J, ∀ W, Kp (fun _ => False) w1 W → Calls Tryz.prog 41 #[.slice co m cc', .string ⟨#[44]⟩] W fun e w' => e = .returned (.string J) ∧ Kp (fun _ => False) W w') := by
      have h2 := Hcs.out
      have := join_c (cc' := cc') HS1.out (by rw [← Hm.out]; omega) Hz.out (by rw [← Hm.out]; exact Hcc.out)
      rw [← Hm.out] at this
      exact this
    have HJ2 : Hid (∃ J, ∀ W, Kp (fun _ => False) w1 W → Calls Tryz.prog 41 #[.slice (some ⟨fb, 0, none⟩) X.1.fs.length fcap, .string ⟨#[44]⟩] W fun e w' => e = .returned (.string J) ∧ Kp (fun _ => False) W w') := by
      have := join_c (cc' := fcap) hsv (by rw [fsb_length]; exact Hfz.out.1) (fun s hs => by
        obtain ⟨f, hf, rfl⟩ := List.mem_map.1 hs
        have := Hfz.out.2 f hf
        show f.toArray.size ≤ 1048576
        rw [List.size_toArray]; exact this) (by rw [fsb_length]; exact hfc)
      rw [fsb_length] at this
      exact this
    obtain ⟨fl, hfl⟩ : ∃ fl, fl = X.1.fs.length := ⟨_, rfl⟩
    rw [← hfl] at l1 HE HJ2 k4
    have Hk1 := hide k1
    have Hk4 := hide k4
    have lt1 : lB < w1.heap.size := k4.lt
    clear k1 k4 k5 k6 hfc hfb hsv hfl Hcase
    by_cases hE : fsb X.1.fs = cs
    · have HE2 : Hid (Calls Tryz.prog 40 #[.slice (some ⟨fb, 0, none⟩) fl fcap, .slice co m cc'] w1 (fun e w' => e = .returned (.bool true) ∧ ∃ k, w' = w1.drewN k)) := HE.out.mono (by
        rintro e w' ⟨⟨Bq, rfl, hB⟩, hk⟩
        rw [hB.2 hE]
        exact ⟨rfl, hk⟩)
      have HEq := hide hE
      clear HE hE HJ1 HJ2
      go_wp2_with ((go_at_call 40; refine HE2.out.mono ?_; rintro e w2 ⟨rfl, kk, rfl⟩))
      go_ret2
      exact ⟨_, _, rfl, HK.out.drewN kk, .inr (.inr (.inr ⟨Hk1.out, HEq.out, rfl, w.heap.size + 5, T1, rfl, (Hrdr.out.quiet ((Kp.refl _ w1).drewN kk)).lower (Nat.le_succ _)⟩))⟩
    · have HE2 : Hid (Calls Tryz.prog 40 #[.slice (some ⟨fb, 0, none⟩) fl fcap, .slice co m cc'] w1 (fun e w' => e = .returned (.bool false) ∧ ∃ k, w' = w1.drewN k)) := HE.out.mono (by
        rintro e w' ⟨⟨Bq, rfl, hB⟩, hk⟩
        cases Bq
        · exact ⟨rfl, hk⟩
        · exact absurd (hB.1 rfl) hE)
      have HEq := hide hE
      clear HE hE
      have HJ : Hid (∀ (v : Value) (W : World), (v = .slice co m cc' ∨ v = .slice (some ⟨fb, 0, none⟩) fl fcap) → Kp (fun _ => False) w1 W → Calls Tryz.prog 41 #[v, .string ⟨#[44]⟩] W fun e w' => ∃ J, e = .returned (.string J) ∧ Kp (fun _ => False) W w') := by
        obtain ⟨J1, hj1⟩ := HJ1.out
        obtain ⟨J2, hj2⟩ := HJ2.out
        intro v W hv hk
        rcases hv with rfl | rfl
        · exact (hj1 W hk).mono fun e w' h => ⟨J1, h⟩
        · exact (hj2 W hk).mono fun e w' h => ⟨J2, h⟩
      have HLE : Hid (∀ (W : World) (E : TypeId) (J1 J2 : ByteArray), Kp (fun _ => False) w1 W → Calls Tryz.prog 35 #[.pointer (some ⟨lB, 0, none⟩), .string ⟨#[119, 97, 110, 116, 32, 116, 104, 101, 32, 104, 101, 97, 100, 101, 114, 32, 37, 113, 59, 32, 103, 111, 116, 32, 37, 113]⟩, .slice (some ⟨W.heap.size, 0, none⟩) 2 2] (W.alloc (.cells #[.iface 9 (.string J1), .iface 9 (.string J2)] E)) (LePost (W.alloc (.cells #[.iface 9 (.string J1), .iface 9 (.string J2)] E)) X.2 .empty))   := fun W E J1 J2 hk => by
        have hka : Kp (fun _ => False) w1 (W.alloc (.cells #[.iface 9 (.string J1), .iface 9 (.string J2)] E)) := hk.alloc _
        have hbb := Blk.new W E #[.iface 9 (.string J1), .iface 9 (.string J2)]
        exact lineErrorf2_c F J1 J2 W.heap.size lB _ X.2 _ _ (by rw [hka.tape, HK.out.tape]; exact HF.out) (hbb.cell rfl) (hbb.cell rfl) (Hk4.out.kept hka (fun e => e))
      clear HJ1 HJ2
      go_upto_region 9 with ((go_at_call 40; refine HE2.out.mono ?_; rintro e w2 ⟨rfl, kk, hw2⟩; have HK2 : Hid (Kp (fun _ => False) w1 w2) := (by rw [hw2]; exact (Kp.refl _ w1).drewN kk); clear hw2))
      have l12 : w2.cell? ⟨lB, 1, none⟩ = some (.slice (some ⟨fb, 0, none⟩) fl fcap) := by rw [HK2.out.cell (p := ⟨lB, 1, none⟩) lt1 (fun e => e)]; exact l1
      have HC1 : Hid (∀ w3 : World, Kp (fun _ => False) w1 w3 → w3.cell? ⟨lB, 1, none⟩ = some (.slice (some ⟨fb, 0, none⟩) fl fcap)) := fun w3 h => by rw [h.cell (p := ⟨lB, 1, none⟩) lt1 (fun e => e)]; exact l1
      clear l1
      go_region_held3 (fun w' => w'.cell? ⟨lB, 1, none⟩ = some (.slice (some ⟨fb, 0, none⟩) fl fcap)) (go_keep) (first | (go_at_call 41; refine (HJ.out _ _ (by first | exact .inl rfl | exact .inr rfl) (by first | exact HK3.out | exact HK3.out.drew | exact HK2.out | exact HK2.out.drew)).mono ?_; rintro e w3 ⟨J, rfl, hk3⟩; have HK3 : Hid (Kp (fun _ => False) w1 w3) := (by first | exact HK3.out.step hk3 | exact HK3.out.drew.step hk3 | exact HK2.out.step hk3 | exact HK2.out.drew.step hk3); have l13 := HC1.out w3 HK3.out; clear hk3) | (go_at_call 35; refine (HLE.out _ _ _ _ (by first | exact HK3.out | exact HK3.out.drew)).mono ?_; rintro e w5 ⟨fe, a, S, rfl, hfe, ha, hbf, hba, hk5⟩; have HK5 : Hid (Kp (fun _ => False) w1 w5) := (by first | exact (HK3.out.alloc _).step hk5 | exact (HK3.out.drew.alloc _).step hk5); have l15 := HC1.out w5 HK5.out; have Hfe := hide hfe; have Ha := hide ha; have Hbf := hide hbf; have Hba := hide hba; clear hfe ha hbf hba hk5))
      all_goals
        go_wp2
        go_ret2
        exact ⟨_, _, rfl, HK.out.step HK5.out, .inr (.inr (.inl ⟨Hk1.out, HEq.out, rfl, fe, a, S, (by have h1 := Ha.out; have h2 := HK.out.size; have h3 := HK3.out.size; simp at h1; omega), rfl, Hbf.out, Hba.out⟩))⟩
  · subst k1 k2
    have hq := eql_76_95 w1 ⟨fe, 0, none⟩ ae
    have Hk3 := hide k3
    have Hk5 := hide k5
    clear k3 k4 k5 Hcase
    go_wp2
    go_ret2
    exact ⟨_, _, rfl, HK.out, .inr (.inl ⟨rfl, fe, a, rfl, Hk3.out, Hk5.out⟩)⟩
end Go.Proofs.Qxb6615582aGreatFmt
