import Derived.Test.Qxb6615582aGreatFmtRe1
import Derived.Test.Qxb6615582aGreatFmtZn2
namespace Go.Proofs.Qxb6615582aGreatFmt
open Go.RowKit
attribute [local go_sem] Go.wp_at_zero Go.wp_at_succ

/-- What Read answers. -/
def RdPost (B : Nat) (w : World) (T : Nat → Nat) (nB : Nat) (sb : Option Addr) (cols : Value) (cs : List ByteArray) (N : Nat) (ae aq abq : Addr) (X : Out × Nat) (e : Ending) (w' : World) : Prop :=
  ∃ v ve T', e = .returned (.tuple #[v, ve]) ∧ Rdr B w' T' nB sb cols X.1.rest X.1.ln (N + 2) ae ∧ Kp (Fa T) w w' ∧ Old w T T' ∧
    ((X.1.oc = 1 ∧ ve = ev ae ∧ v = .pointer none) ∨
     (X.1.oc = 0 ∧ X.1.fs.length = cs.length ∧ Fgood (fsb X.1.fs) ∧ ve = .nilIface ∧ ∃ lB fv, v = .pointer (some ⟨lB, 0, none⟩) ∧ Blk w' lB 42 #[.int .i64 X.2, fv, cols] ∧ T' lB = 0 ∧ Strs w' T' fv X.1.fs) ∨
     (v = .pointer none ∧ ∃ fe a, ve = .iface 76 (.pointer (some ⟨fe, 0, none⟩)) ∧ Blk w' fe 79 #[.int .i64 X.2, .string .empty, ev a] ∧ T' fe = 0 ∧ ((a = aq ∧ X.1.oc = 2) ∨ (a = abq ∧ X.1.oc = 3))) ∨
     (X.1.oc = 0 ∧ v = .pointer none ∧ ∃ fe a S c, ve = .iface 76 (.pointer (some ⟨fe, 0, none⟩)) ∧ w.heap.size ≤ fe ∧ w.heap.size ≤ a ∧ Blk w' fe 79 #[.int .i64 X.2, .string c, .iface 95 (.pointer (some ⟨a, 0, none⟩))] ∧ Blk w' a 97 #[.string S] ∧
       ((X.1.fs.length ≠ cs.length ∧ c = .empty) ∨ (X.1.fs.length = cs.length ∧ ∃ k, ∃ h : k < cs.length, Fbad (fsb X.1.fs) k ∧ c = if cs.length = 1 then .empty else cs[k]))))
theorem Rdr.cols {B : Nat} {w : World} {T : Nat → Nat} {nB : Nat} {sb : Option Addr} {cols : Value} {x : Bs} {ln N : Nat} {ae : Addr} (h : Rdr B w T nB sb cols x ln N ae) : w.cell? ⟨nB, 1, none⟩ = some cols := by
  obtain ⟨A, cB, U, n, R, ix, ps, hrx, hst, hb, hsb⟩ := h.ex
  exact hb.cell rfl
set_option maxRecDepth 100000 in
set_option maxHeartbeats 4000000 in
/-- Reader.Read. -/
theorem readR_c {B : Nat} {w : World} {F : Go.Stop.Interp} (hF : F.answers w.tape) {T : Nat → Nat} {nB : Nat} {sb co : Option Addr} {cc' : Nat} {cs : List ByteArray} {x : Bs} {ln N : Nat} {ae ab aq abq : Addr} (h : Rdr B w T nB sb (.slice co cs.length cc') x ln N ae) (hg : Gw B w ae ab aq abq) (hB : B ≤ w.heap.size) (hN : N ≤ 1099511626000) (hS : Sv w co cs) (hcs : cs.length ≤ 1048576) (hlow : ∀ b o, co = some ⟨b, o, none⟩ → b < B) (hx : x.length ≤ 1048576) :
    Calls Tryz.prog 31 #[.pointer (some ⟨nB, 0, none⟩)] w (RdPost B w T nB sb (.slice co cs.length cc') cs N ae aq abq (recd x ln)) := by
  have H32 : Hid (Calls Tryz.prog 32 #[.pointer (some ⟨nB, 0, none⟩)] w (NvPost B w T nB sb (.slice co cs.length cc') N ae aq abq (recd x ln))) := nextR_c h hg hB hN
  have hfz : (recd x ln).1.fs.length ≤ 1048577 ∧ ∀ f ∈ (recd x ln).1.fs, f.length ≤ 1048576 := by
    have h1 := recd_fz x ln
    exact ⟨by omega, fun f hf => by have := h1.2 f hf; omega⟩
  obtain ⟨X, hX⟩ : ∃ X, recd x ln = X := ⟨_, rfl⟩
  rw [hX] at H32 hfz ⊢
  have Hfz := hide hfz
  have HF := hide hF
  have Hg := hide hg
  have HS := hide hS
  have HlT := hide h.low
  have Hlow := hide hlow
  have Hcs := hide hcs
  obtain ⟨cl, hcl⟩ : ∃ cl, cl = cs.length := ⟨_, rfl⟩
  rw [← hcl] at H32 ⊢
  have Hcl := hide hcl
  have hcl' : (cl : Int) ≤ 1048576 := by omega
  clear h hg hB hN hS hcs hlow hx hX hfz hF hcl
  go_enter Tryz.func31, Tryz.ntmps31
  go_upto_region 2 with ((go_at_call 32; refine H32.out.mono ?_; rintro e w1 hp; obtain ⟨v, ve, T1, rfl, hrdr, hkp, hold, hcase⟩ := hp; have Hrdr := hide hrdr; have Hkp := hide hkp; have Hold := hide hold; have Hcase := hide hcase; clear hrdr hkp hold hcase))
  have G1 : Hid (Gw B w1 ae ab aq abq) := Hg.out.kept Hkp.out (fun k hk e => e (HlT.out k hk))
  clear H32
  rcases Hcase.out with ⟨k1, k2, k3⟩ | ⟨k1, k2, lB, fv, k3, k4, k5, k6, _, _⟩ | ⟨k1, fe, a, k2, k3, k4, k5⟩
  · unfold ev at k2
    subst k2 k3
    have Hk1 := hide k1
    clear k1 Hcase
    go_wp2
    go_ret2
    exact ⟨_, _, T1, rfl, Hrdr.out, Hkp.out, Hold.out, .inl ⟨Hk1.out, rfl, rfl⟩⟩
  · subst k2 k3
    obtain ⟨gb, gcap, hv, hgc, hgb, hsg⟩ := k6.sv
    subst hv
    have l1 : w1.cell? ⟨lB, 1, none⟩ = some (.slice (some ⟨gb, 0, none⟩) X.1.fs.length gcap) := k4.cell rfl
    have n1 : w1.cell? ⟨nB, 1, none⟩ = some (.slice co cl cc') := Hrdr.out.cols
    obtain ⟨fl, hfl⟩ : ∃ fl, fl = X.1.fs.length := ⟨_, rfl⟩
    rw [← hfl] at l1 k4
    have Hfl := hide hfl
    have hfl' : (fl : Int) ≤ 1048577 := by have := Hfz.out.1; omega
    have Hk1 := hide k1
    have Hk4 := hide k4
    have Hk5 := hide k5
    have Hk6 := hide k6
    have Hsg := hide hsg
    have lt1 : lB < w1.heap.size := k4.lt
    have lt2 : nB < w1.heap.size := Hrdr.out.at_
    have HK4 : Hid (∀ W, Kp (fun _ => False) w1 W → Blk W lB 42 #[.int .i64 X.2, .slice (some ⟨gb, 0, none⟩) fl gcap, .slice co cl cc']) := fun W hk => k4.kept hk (fun e => e)
    have HSc : Hid (Sv w1 co cs) := HS.out.kept Hkp.out (fun b o e hb => hb (HlT.out b (Hlow.out b o e)))
    clear k1 k4 k5 k6 hgc hgb hsg hfl Hcase
    by_cases hlen : fl = cl
    · have hne : ((fl : Int) != (cl : Int)) = false := by rw [hlen]; simp
      have Hlen := hide hlen
      clear hlen
      have HTb : Hid (∀ W, Kp (fun _ => False) w1 W → Lib.Utf8Tabs 3 4 W) := fun W hk => (G1.out.kept hk (fun _ _ e => e)).tabs
      have H34 : Hid (∀ (W : World) (c : ByteArray), Kp (fun _ => False) w1 W → Calls Tryz.prog 34 #[.pointer (some ⟨lB, 0, none⟩), .string c, .string ⟨#[110, 111, 116, 32, 85, 84, 70, 45, 56, 32, 116, 101, 120, 116, 59, 32, 115, 97, 118, 101, 32, 116, 104, 101, 32, 102, 105, 108, 101, 32, 97, 115, 32, 85, 84, 70, 45, 56]⟩, .slice none 0 0] W (LePost W X.2 (if cl = 1 then .empty else c))) := fun W c hk => fieldErrorf_c lB W X.2 _ c co cl cc' (HK4.out W hk) (by omega)
      go_wp2_with fail
      go_quiet (fail)
      go_wp2_with fail
      go_loopg [48] fl (fun gk s48 wr => ∃ k : Nat, s48 = .int .i64 k ∧ k ≤ fl ∧ gk = fl - k ∧ Hid (Kp (fun _ => False) w1 wr ∧ ∀ j (hj : j < (fsb X.1.fs).length), j < k → vld (fsb X.1.fs)[j] = true))
      case atStart => exact ⟨0, rfl, Nat.zero_le _, rfl, (Kp.refl _ w1).drewN _, fun j _ h => absurd h (Nat.not_lt_zero _)⟩
      case round =>
        obtain ⟨k, rfl, hk, rfl, hQ⟩ := hrel
        obtain ⟨w2, rfl⟩ : ∃ w2, w2 = wr := ⟨wr, rfl⟩
        by_cases hkm : k < fl
        · have hkm' : (k : Int) < fl := by omega
          have hkl' : (k : Int) < cl := by have := Hlen.out; omega
          have hks : k < (fsb X.1.fs).length := by rw [fsb_length, ← Hfl.out]; exact hkm
          obtain ⟨b, o, hao, hc⟩ := (Hsg.out.kept hQ.out.1 (fun _ _ _ e => e)) k hks
          cases hao
          rw [Nat.zero_add] at hc
          have hkc : k < cs.length := by rw [← Hcl.out, ← Hlen.out]; exact hkm
          obtain ⟨b2, o2, hco, hc2⟩ := (HSc.out.kept hQ.out.1 (fun _ _ _ e => e)) k hkc
          subst hco
          obtain ⟨s, hss⟩ : ∃ s, s = (fsb X.1.fs)[k] := ⟨_, rfl⟩
          obtain ⟨c2, hcc⟩ : ∃ c2, c2 = cs[k] := ⟨_, rfl⟩
          rw [← hss] at hc
          rw [← hcc] at hc2
          have hsz : s.size ≤ 1048576 := by
            have hm : s ∈ fsb X.1.fs := by rw [hss]; exact List.getElem_mem hks
            obtain ⟨f, hf, rfl⟩ := List.mem_map.1 hm
            have := Hfz.out.2 f hf
            show f.toArray.size ≤ 1048576
            rw [List.size_toArray]; exact this
          have H43 := hide (Tryz.utf8_ValidString s w2 (by omega) (HTb.out w2 hQ.out.1))
          obtain ⟨V, hV⟩ : ∃ V, Lib.validD s.data.toList = V := ⟨_, rfl⟩
          rw [hV] at H43
          have HV := hide hV
          have Hss := hide hss
          have Hcc := hide hcc
          have Hks := hide hks
          have Hkc := hide hkc
          have HC1 : Hid (∀ w3 : World, Kp (fun _ => False) w1 w3 → w3.cell? ⟨nB, 1, none⟩ = some (.slice (some ⟨b2, o2, none⟩) cl cc')) := fun w3 hk => by rw [hk.cell (p := ⟨nB, 1, none⟩) lt2 (fun e => e)]; exact n1
          have HC2 : Hid (∀ w3 : World, Kp (fun _ => False) w2 w3 → w3.cell? ⟨b2, o2 + k, none⟩ = some (.string c2)) := fun w3 hk => by rw [hk.cell (p := ⟨b2, o2 + k, none⟩) (lt_of_cell hc2) (fun e => e)]; exact hc2
          clear hV hss hcc hc2 hsz
          cases V
          · go_wp2_with (first | (go_at_call 43; refine H43.out.mono ?_; rintro e w3 ⟨rfl, hbl⟩; have HK3 : Hid (Kp (fun _ => False) w2 w3) := Kp.of_below hbl _; have m1 := HC1.out w3 (hQ.out.1.step HK3.out); have m2 := HC2.out w3 HK3.out; clear hbl) | (go_at_call 34; refine (H34.out _ _ (hQ.out.1.step HK3.out)).mono ?_; rintro e w5 ⟨fe, a, S, rfl, hfe, ha, hbf, hba, hk5⟩; have Hfe := hide hfe; have Ha := hide ha; have Hbf := hide hbf; have Hba := hide hba; have HK5 := hide hk5; clear hfe ha hbf hba hk5))
            go_ret2
            have HK15 : Hid (Kp (fun _ => False) w1 w5) := (hQ.out.1.step HK3.out).step HK5.out
            exact ⟨_, _, T1, rfl, Hrdr.out.quiet HK15.out, Hkp.out.trans (HK15.out.mono (fun _ _ e => e.elim)), Hold.out, .inr (.inr (.inr ⟨Hk1.out, rfl, fe, a, S, _, rfl, (by have h1 := Hfe.out; have h2 := Hkp.out.size; have h3 := (hQ.out.1.step HK3.out).size; omega), (by have h1 := Ha.out; have h2 := Hkp.out.size; have h3 := (hQ.out.1.step HK3.out).size; omega), Hbf.out, Hba.out, .inr ⟨by rw [← Hfl.out, ← Hcl.out]; exact Hlen.out, k, Hkc.out, ⟨Hks.out, by unfold vld; rw [← Hss.out]; exact HV.out, hQ.out.2⟩, by rw [Hcl.out, Hcc.out]⟩⟩))⟩
          · go_wp2_with ((go_at_call 43; refine H43.out.mono ?_; rintro e w3 ⟨rfl, hbl⟩; have HK3 : Hid (Kp (fun _ => False) w2 w3) := Kp.of_below hbl _; clear hbl))
            go_roundg (fl - (k + 1))
            case measure => omega
            case rel =>
              refine ⟨k + 1, by go_num, by omega, rfl, hQ.out.1.step HK3.out, fun j hj hjk => ?_⟩
              by_cases hjk2 : j = k
              · subst hjk2; unfold vld; rw [← Hss.out]; exact HV.out
              · exact hQ.out.2 j hj (by omega)
        · obtain rfl : k = fl := by omega
          have hkm' : ¬ (k : Int) < k := by omega
          go_wp2
          go_ret2
          exact ⟨_, _, T1, rfl, Hrdr.out.quiet hQ.out.1, Hkp.out.trans (hQ.out.1.mono (fun _ _ e => e.elim)), Hold.out, .inr (.inl ⟨Hk1.out, by rw [← Hfl.out, ← Hcl.out]; exact Hlen.out, fun j hj => hQ.out.2 j hj (by rw [Hfl.out, ← fsb_length]; exact hj), rfl, lB, _, rfl, HK4.out _ hQ.out.1, Hk5.out, by rw [Hfl.out]; exact Hk6.out.kept hQ.out.1⟩)⟩
    · have hne : ((fl : Int) != (cl : Int)) = true := by rw [bne_iff_ne]; omega
      have hne2 : ((fl : Int) == (cl : Int)) = false := by rw [beq_eq_false_iff_ne]; omega
      have H42 : Hid (∀ W, Kp (fun _ => False) w1 W → Calls Tryz.prog 42 #[.int .i64 cl] W fun e w' => (∃ S, e = .returned (.string S)) ∧ Kp (fun _ => False) W w') := fun W hk => fieldCount_c F cl W (by rw [hk.tape, Hkp.out.tape]; exact HF.out)
      have HLE : Hid (∀ (W : World) (E : TypeId) (J : ByteArray) (n : Int), Kp (fun _ => False) w1 W → Calls Tryz.prog 35 #[.pointer (some ⟨lB, 0, none⟩), .string ⟨#[119, 97, 110, 116, 32, 37, 115, 59, 32, 103, 111, 116, 32, 37, 100]⟩, .slice (some ⟨W.heap.size, 0, none⟩) 2 2] (W.alloc (.cells #[.iface 9 (.string J), .iface 3 (.int .i64 n)] E)) (LePost (W.alloc (.cells #[.iface 9 (.string J), .iface 3 (.int .i64 n)] E)) X.2 .empty)) := fun W E J n hk => by
        have hka : Kp (fun _ => False) w1 (W.alloc (.cells #[.iface 9 (.string J), .iface 3 (.int .i64 n)] E)) := hk.alloc _
        have hbb := Blk.new W E #[.iface 9 (.string J), .iface 3 (.int .i64 n)]
        exact lineErrorf3_c F J n W.heap.size lB _ X.2 _ _ (by rw [hka.tape, Hkp.out.tape]; exact HF.out) (hbb.cell rfl) (hbb.cell rfl) (HK4.out _ hka)
      have HC1 : Hid (∀ w3 : World, Kp (fun _ => False) w1 w3 → w3.cell? ⟨lB, 1, none⟩ = some (.slice (some ⟨gb, 0, none⟩) fl gcap) ∧ w3.cell? ⟨nB, 1, none⟩ = some (.slice co cl cc')) := fun w3 hk => ⟨by rw [hk.cell (p := ⟨lB, 1, none⟩) lt1 (fun e => e)]; exact l1, by rw [hk.cell (p := ⟨nB, 1, none⟩) lt2 (fun e => e)]; exact n1⟩
      go_wp2_with fail
      go_quiet (fail)
      go_upto_region 5 with fail
      go_region_held3 (fun w' => w'.cell? ⟨lB, 1, none⟩ = some (.slice (some ⟨gb, 0, none⟩) fl gcap) ∧ w'.cell? ⟨nB, 1, none⟩ = some (.slice co cl cc')) (go_keep) (first | (go_at_call 42; refine (H42.out _ (by first | exact ((Kp.refl _ w1).drewN _).drew | exact (Kp.refl _ w1).drewN _ | exact (Kp.refl _ w1).drew | exact Kp.refl _ w1)).mono ?_; rintro e w3 ⟨⟨J, rfl⟩, hk3⟩; have HK3 : Hid (Kp (fun _ => False) w1 w3) := (by first | exact ((Kp.refl _ w1).drewN _).drew.step hk3 | exact ((Kp.refl _ w1).drewN _).step hk3 | exact (Kp.refl _ w1).drew.step hk3 | exact hk3); have l13 := HC1.out w3 HK3.out; clear hk3) | (go_at_call 35; refine (HLE.out _ _ _ _ (by first | exact HK3.out | exact HK3.out.drew)).mono ?_; rintro e w5 ⟨fe, a, S, rfl, hfe, ha, hbf, hba, hk5⟩; have HK5 : Hid (Kp (fun _ => False) w1 w5) := (by first | exact (HK3.out.alloc _).step hk5 | exact (HK3.out.drew.alloc _).step hk5); have l15 := HC1.out w5 HK5.out; have Hfe := hide hfe; have Ha := hide ha; have Hbf := hide hbf; have Hba := hide hba; clear hfe ha hbf hba hk5))
      all_goals
        go_wp2
        go_ret2
        exact ⟨_, _, T1, rfl, Hrdr.out.quiet HK5.out, Hkp.out.trans (HK5.out.mono (fun _ _ e => e.elim)), Hold.out, .inr (.inr (.inr ⟨Hk1.out, rfl, fe, a, S, .empty, rfl, (by have h1 := Hfe.out; have h2 := Hkp.out.size; have h3 := HK3.out.size; simp at h1; omega), (by have h1 := Ha.out; have h2 := Hkp.out.size; have h3 := HK3.out.size; simp at h1; omega), Hbf.out, Hba.out, .inl ⟨by rw [← Hfl.out, ← Hcl.out]; exact hlen, rfl⟩⟩))⟩
  · subst k1 k2
    have Hk3 := hide k3
    have Hk4 := hide k4
    have Hk5 := hide k5
    clear k3 k4 k5 Hcase
    go_wp2
    go_ret2
    exact ⟨_, _, T1, rfl, Hrdr.out, Hkp.out, Hold.out, .inr (.inr (.inl ⟨rfl, fe, a, rfl, Hk3.out, Hk4.out, Hk5.out⟩))⟩
end Go.Proofs.Qxb6615582aGreatFmt
