import Derived.Test.Qxb6615582aGreatFmtLw8
namespace Go.Proofs.Qxb6615582aGreatFmt
open Go.RowKit

theorem rc_ret {w wx : World} {t : Bs} {X : Out × Nat} {l0 : Nat} {fv vp vl vo : Value} {fs : List Bs} {rest : Bs} {l oc p : Nat} (h2 : X.2 = l0) (hx : X.1 = ⟨fs, rest, l, oc⟩) (hacc : Acc w wx 9 fv (scs fs)) (hp : p ≤ t.length) (hd : t.drop p = rest) (e1 : vp = .int .i64 p) (e2 : vl = .int .i64 l) (e3 : vo = .int .i64 oc) : RcPost w t X (.returned (.tuple #[fv, .int .i64 l0, vp, vl, vo])) wx := by
  obtain ⟨x, l1⟩ := X
  simp only at h2 hx
  subst h2 hx e1 e2 e3
  exact ⟨fv, p, rfl, hp, hd, hacc⟩
theorem acc_push {w w1 : World} {fs : List Bs} {b : Bs} {ao1 : Option Addr} {cap1 : Nat} {S : ByteArray} (hS : S = ⟨b.toArray⟩) (h : ∀ wx : World, wx.heap = w1.heap → wx.os = w1.os → wx.tape = w1.tape → wx.output = w1.output → Acc w wx 9 (.slice ao1 ((scs fs).length + 1) cap1) (scs fs ++ [.string S])) {wx : World} (e1 : wx.heap = w1.heap := by rfl) (e2 : wx.os = w1.os := by rfl) (e3 : wx.tape = w1.tape := by rfl) (e4 : wx.output = w1.output := by rfl) : Acc w wx 9 (.slice ao1 ((scs fs).length + 1) cap1) (scs (fs ++ [b])) := by
  rw [scs_push, ← hS]; exact h wx e1 e2 e3 e4
theorem acc_pushb {w w1 : World} {fs : Bs} {b : UInt8} {ao1 : Option Addr} {cap1 : Nat} (h : ∀ wx : World, wx.heap = w1.heap → wx.os = w1.os → wx.tape = w1.tape → wx.output = w1.output → Acc w wx 5 (.slice ao1 ((bcs fs).length + 1) cap1) (bcs fs ++ [.int .u8 b.toNat])) {wx : World} (e1 : wx.heap = w1.heap := by rfl) (e2 : wx.os = w1.os := by rfl) (e3 : wx.tape = w1.tape := by rfl) (e4 : wx.output = w1.output := by rfl) : Acc w wx 5 (.slice ao1 ((bcs fs).length + 1) cap1) (bcs (fs ++ [b])) := by
  rw [bcs_push]; exact h wx e1 e2 e3 e4
theorem acc_none {w wr wx : World} (h : Kp (fun _ => False) w wr) (e1 : wx.heap = wr.heap := by rfl) (e2 : wx.os = wr.os := by rfl) (e3 : wx.tape = wr.tape := by rfl) (e4 : wx.output = wr.output := by rfl) : Acc w wx 9 (.slice none 0 0) (scs []) := ⟨⟨rfl, .inl ⟨rfl, rfl⟩⟩, h.heap e1 e2 e3 e4⟩
/-- Inside quotes. -/
def ZQ (wr : World) (t : Bs) (fs : List Bs) (R : Out) (M p r l2 : Nat) (cl : Bool) (s13 : Value) (w3 : World) : Prop := ∃ buf, Acc wr w3 5 s13 (bcs buf) ∧ l2 + (t.length - r) ≤ M ∧ buf.length ≤ r ∧ p + 1 ≤ r ∧ (cl = false → quo (t.drop r) buf fs l2 = R) ∧ (cl = true → aft (t.drop r) buf fs l2 = R ∧ (t.drop r).head? ≠ some 34)
theorem fld_ne {t : Bs} {p : Nat} {c : UInt8} {fs : List Bs} {ln : Nat} (h : t[p]? = some c) (hc : c ≠ 34) : fld (t.drop p) fs ln = unq (t.drop p) ((t.drop p).take (p - p)) fs ln := by
  rw [Nat.sub_self, List.take_zero, drop_get h, fldC, if_neg hc]
theorem fld_q2 {t : Bs} {p : Nat} {fs : List Bs} {ln : Nat} (h : t[p]? = some 34) : fld (t.drop p) fs ln = quo (t.drop (p + 1)) [] fs ln := by
  rw [drop_get h, fldC, if_pos rfl]
theorem fld_end {t : Bs} {p : Nat} {fs : List Bs} {ln : Nat} (h : p = t.length) : fld (t.drop p) fs ln = unq (t.drop p) ((t.drop p).take (p - p)) fs ln := by
  rw [Nat.sub_self, List.take_zero, List.drop_of_length_le (by omega), fldN]
theorem unq_at {t : Bs} {p : Nat} {c : UInt8} {b : Bs} {fs : List Bs} {ln : Nat} (h : t[p]? = some c) : unq (t.drop p) b fs ln = if c = 44 then fld (t.drop (p + 1)) (fs ++ [b]) ln else if c = 10 then ⟨fs ++ [b], t.drop (p + 1), ln + 1, 0⟩ else if c = 34 then ⟨[], skipL (t.drop p), skipN (t.drop p) ln, 3⟩ else unq (t.drop (p + 1)) (b ++ [c]) fs ln := by
  rw [drop_get h, unqC]
theorem unq_end {t : Bs} {p : Nat} {b : Bs} {fs : List Bs} {ln : Nat} (h : p = t.length) : unq (t.drop p) b fs ln = ⟨fs ++ [b], t.drop p, ln, 0⟩ := by
  rw [List.drop_of_length_le (by omega), unqN]
theorem quo_at {t : Bs} {p : Nat} {c : UInt8} {b : Bs} {fs : List Bs} {ln : Nat} (h : t[p]? = some c) : quo (t.drop p) b fs ln = if c = 34 then aft (t.drop (p + 1)) b fs ln else quo (t.drop (p + 1)) (b ++ [c]) fs (if c = 10 then ln + 1 else ln) := by
  rw [drop_get h, quoC]
theorem quo_end {t : Bs} {p : Nat} {b : Bs} {fs : List Bs} {ln : Nat} (h : p = t.length) : quo (t.drop p) b fs ln = ⟨[], t.drop p, ln, 2⟩ := by
  rw [List.drop_of_length_le (by omega), quoN]
theorem aft_at {t : Bs} {p : Nat} {c : UInt8} {b : Bs} {fs : List Bs} {ln : Nat} (h : t[p]? = some c) : aft (t.drop p) b fs ln = if c = 34 then quo (t.drop (p + 1)) (b ++ [34]) fs ln else if c = 10 then ⟨fs ++ [b], t.drop (p + 1), ln + 1, 0⟩ else if c = 44 then fld (t.drop (p + 1)) (fs ++ [b]) ln else ⟨[], skipL (t.drop p), skipN (t.drop p) ln, 2⟩ := by
  rw [drop_get h, aftC]
theorem aft_end {t : Bs} {p : Nat} {b : Bs} {fs : List Bs} {ln : Nat} (h : p = t.length) : aft (t.drop p) b fs ln = ⟨fs ++ [b], t.drop p, ln, 0⟩ := by
  rw [List.drop_of_length_le (by omega), aftN]
theorem head_at {t : Bs} {p : Nat} {c : UInt8} (h : t[p]? = some c) : (t.drop p).head? = some c := by rw [drop_get h]; rfl
theorem head_end {t : Bs} {p : Nat} (h : p = t.length) : (t.drop p).head? ≠ some 34 := by rw [List.drop_of_length_le (by omega)]; simp
theorem u8_not {c k : UInt8} (h : ((c.toNat : Int) == (k.toNat : Int)) = false) : c ≠ k := by
  intro e; rw [e] at h; simp at h
theorem bne_of {a b : Int} {x : Bool} (h : (a == b) = x) : (a != b) = !x := by rw [← h]; rfl
theorem record_end {t : Bs} {p p0 ln ln0 : Nat} {X : Out × Nat} (h : recd (t.drop p0) ln0 = X) (hs : skipB (t.drop p) ln = skipB (t.drop p0) ln0) (hp : p = t.length) : X.2 = ln ∧ X.1 = ⟨[], t.drop p, ln, 1⟩ := by
  have hd : t.drop p = [] := List.drop_of_length_le (by omega)
  rw [hd, skipB] at hs
  rw [recd, ← hs] at h
  rw [← h, hd]
  exact ⟨rfl, rfl⟩
theorem record_start {t : Bs} {p p0 ln ln0 : Nat} {X : Out × Nat} {c : UInt8} (h : recd (t.drop p0) ln0 = X) (hs : skipB (t.drop p) ln = skipB (t.drop p0) ln0) (hc : t[p]? = some c) (hne : c ≠ 10) : X.2 = ln ∧ fld (t.drop p) [] ln = X.1 := by
  rw [skipB_step hc, if_neg hne] at hs
  rw [recd, ← hs, drop_get hc] at h
  rw [← h, drop_get hc]
  exact ⟨rfl, rfl⟩

set_option maxRecDepth 100000 in
set_option maxHeartbeats 8000000 in
/-- zzRecord. -/
theorem record_c {w : World} {ao : Option Addr} {cap : Nat} {t : Bs} {p0 ln0 : Nat} (hT : Tx w ao t) (hl : t.length ≤ 1048576) (hc : t.length ≤ cap) (hc2 : cap ≤ 9223372036854775807) (hp : p0 ≤ t.length) (hln : ln0 ≤ 2000000) :
    Calls Tryz.prog 12 #[.slice ao t.length cap, .int .i64 p0, .int .i64 ln0] w (RcPost w t (recd (t.drop p0) ln0)) := by
  obtain ⟨X, hX⟩ : ∃ X, recd (t.drop p0) ln0 = X := ⟨_, rfl⟩
  rw [hX]
  have HX := hide hX
  have HT := hide hT
  have HCT := hide (fun (wr : World) (hk : Kp (fun _ => False) w wr) (q r : Nat) (hq : q ≤ r) (hr : r ≤ t.length) => cut_run (hT.kept hk) hq hr hc hc2)
  have HSK := hide (fun (wr : World) (hk : Kp (fun _ => False) w wr) (q l : Nat) (hq : q ≤ t.length) (hl2 : l ≤ 4000000) => skip_c (cap := cap) (hT.kept hk) hl hq hl2)
  clear hT hX hc hc2
  obtain ⟨m, hmm⟩ : ∃ m, m = t.length := ⟨_, rfl⟩
  rw [← hmm] at hl hp HCT HSK ⊢
  have Hm := hide hmm
  clear hmm
  have hl' : (m : Int) ≤ 1048576 := by omega
  have hp' : (p0 : Int) ≤ m := by omega
  have hln' : (ln0 : Int) ≤ 2000000 := by omega
  obtain ⟨M, hM⟩ : ∃ M, M = ln0 + (m - p0) := ⟨_, rfl⟩
  have hMl : M ≤ 3048576 := by omega
  go_enter Tryz.func12, Tryz.ntmps12
  go_wp2_with fail
  go_loopg [1, 2] (m - p0) (fun gk s1 s2 wr => ∃ p ln : Nat, s1 = .int .i64 p ∧ s2 = .int .i64 ln ∧ p ≤ m ∧ gk = m - p ∧ w = wr ∧ ln + (m - p) ≤ M ∧ Hid (skipB (t.drop p) ln = skipB (t.drop p0) ln0))
  case atStart => exact ⟨p0, ln0, rfl, rfl, hp, rfl, rfl, by omega, rfl⟩
  case round =>
    obtain ⟨p, ln, rfl, rfl, hpm, rfl, rfl, hlnM, hR⟩ := hrel
    have hln2 : (ln : Int) ≤ 3048576 := by omega
    by_cases hlt : p < m
    · have hlt' : (p : Int) < m := by omega
      obtain ⟨b, o, c, hao, hcell, hget⟩ := HT.out.get (Kp.refl _ w) (j := p) (by rw [← Hm.out]; exact hlt)
      subst hao
      have Hget := hide hget
      clear hget
      cases x10 : ((c.toNat : Int) == 10)
      · have Hst := hide (record_start HX.out hR.out Hget.out (u8_not (k := 10) x10))
        have hge : ¬ ((m : Int) ≤ p) := by omega
        go_wp2_with fail
        clear x10 hge hcell hlt' hp' hln2 hln'
        go_loopg [1, 2, 12] (m + 1 - p) (fun gk s1 s2 s12 wr => ∃ p1 l1 : Nat, s1 = .int .i64 p1 ∧ s2 = .int .i64 l1 ∧ p1 ≤ m ∧ gk = m + 1 - p1 ∧ Hid (ZF w t X.1 M p1 l1 s12 wr))
        case atStart => exact ⟨p, ln, rfl, rfl, hpm, rfl, [], Acc.nil w 9, Hst.out.2, by rw [← Hm.out]; exact hlnM, Nat.zero_le _⟩
        case round =>
          obtain ⟨p1, l1, rfl, rfl, hp1, rfl, hZ⟩ := hrel
          obtain ⟨w2, rfl⟩ : ∃ w2, w2 = wr := ⟨wr, rfl⟩
          obtain ⟨fs, hacc, hfld, hlM, hfl⟩ := hZ.out
          have Hacc := hide hacc
          have Hfld := hide hfld
          have HlM := hide hlM
          have Hfl := hide hfl
          obtain ⟨fa, fcap, hs12⟩ := own_form2 hacc.own
          subst hs12
          clear hZ hacc hfld hlM hfl
          have hl1M : l1 + (m - p1) ≤ M := by have := HlM.out; rw [← Hm.out] at this; exact this
          have hl1 : (l1 : Int) ≤ 3048576 := by omega
          have hp1' : (p1 : Int) ≤ m := by omega
          by_cases hp1lt : p1 < m
          · have hp1lt' : (p1 : Int) < m := by omega
            obtain ⟨b1, o1, c1, hao1, hcell1, hget1⟩ := HT.out.get Hacc.out.kp (j := p1) (by rw [← Hm.out]; exact hp1lt)
            cases hao1
            have Hget1 := hide hget1
            clear hget1
            cases x34 : ((c1.toNat : Int) == 34)
            · have hn34 := hide (u8_not (k := 34) x34)
              go_wp2_with fail
              clear hcell1 x34 hp1lt'
              go_loopg [18] (m - p1) (fun gk s18 wq => ∃ q : Nat, s18 = .int .i64 q ∧ p1 ≤ q ∧ q ≤ m ∧ gk = m - q ∧ w2 = wq ∧ Hid (unq (t.drop q) ((t.drop p1).take (q - p1)) fs l1 = X.1))
              case atStart => exact ⟨p1, rfl, Nat.le_refl _, hp1, rfl, rfl, hide (by rw [← Hfld.out, fld_ne Hget1.out hn34.out])⟩
              case round =>
                obtain ⟨q, rfl, hpq, hqm, rfl, rfl, hU⟩ := hrel
                have hpq' : (p1 : Int) ≤ q := by omega
                have hqm' : (q : Int) ≤ m := by omega
                obtain ⟨a2, n2, c2, hs1, hs2⟩ := HCT.out w2 Hacc.out.kp p1 q hpq hqm
                have hs3 := hs2 w2 rfl
                clear hs2
                obtain ⟨B, hB⟩ : ∃ B, B = (t.drop p1).take (q - p1) := ⟨_, rfl⟩
                rw [← hB] at hs3 hU
                have HB := hide hB
                clear hB
                obtain ⟨S, hS⟩ : ∃ S : ByteArray, S = ⟨B.toArray⟩ := ⟨_, rfl⟩
                rw [← hS] at hs3
                have HS := hide hS
                clear hS
                have HA := hide (fun (W : World) e1 e2 e3 e4 => Hacc.out.app (.string S) rfl Tryz.underlying23 Tryz.info9 rfl (by decide) W e1 e2 e3 e4 (by rw [scs_length]; have := Hfl.out; omega))
                by_cases hqlt : q < m
                · have hqlt' : (q : Int) < m := by omega
                  have hqge : ¬ ((m : Int) ≤ q) := by omega
                  obtain ⟨b2, o2, d, hao2, hcell2, hget2⟩ := HT.out.get Hacc.out.kp (j := q) (by rw [← Hm.out]; exact hqlt)
                  cases hao2
                  have Hget2 := hide hget2
                  clear hget2
                  have Hun := hide (unq_at (b := B) (fs := fs) (ln := l1) Hget2.out)
                  have HBq : Hid (∀ w1 : World, (∀ wx : World, wx.heap = w1.heap → wx.os = w1.os → wx.tape = w1.tape → wx.output = w1.output → Kp (fun _ => False) w wx) → w1.cell? ⟨b, o + q, none⟩ = some (.int .u8 d.toNat)) := fun w1 h => by
                    obtain ⟨b4, o4, h1, h2⟩ := (HT.out.kept (h w1 rfl rfl rfl rfl)).at_ (j := q) (by rw [← Hm.out]; exact hqlt)
                    cases h1
                    rw [h2]
                    obtain ⟨h3, h4⟩ := List.getElem?_eq_some_iff.1 Hget2.out
                    rw [h4]
                  cases x44 : ((d.toNat : Int) == 44)
                  · have hn44 := hide (u8_not (k := 44) x44)
                    have y44 := bne_of x44
                    cases x10 : ((d.toNat : Int) == 10)
                    · have hn10 := hide (u8_not (k := 10) x10)
                      have y10 := bne_of x10
                      cases x34 : ((d.toNat : Int) == 34)
                      · have hn34 := hide (u8_not (k := 34) x34)
                        clear hs1 hs3
                        go_wp2_with fail
                        go_roundg (m - (q + 1))
                        case measure => omega
                        case rel => exact ⟨q + 1, by go_num, by omega, by omega, rfl, rfl, hide (by rw [take_push Hget2.out hpq, ← HB.out, ← hU.out, Hun.out, if_neg hn44.out, if_neg hn10.out, if_neg hn34.out])⟩
                      · have he34 := hide (u8_eq (k := 34) x34)
                        clear hs1 hs3
                        have HK := hide (HSK.out w2 Hacc.out.kp q l1 hqm (by omega))
                        go_wp2_with ((go_at_call 28; refine HK.out.mono ?_; rintro e w1 ⟨rfl, np, rfl, hnp, hnd⟩))
                        (try simp only [Exit.inBlock, Exit.then]); refine bodyPost_ret (results_tmp5 rfl _ _ _) rfl ?_
                        exact rc_ret Hst.out.1 (by rw [← hU.out, Hun.out, if_neg hn44.out, if_neg hn10.out, if_pos he34.out]) (acc_none Hacc.out.kp) hnp hnd rfl rfl rfl
                    · have he10 := hide (u8_eq (k := 10) x10)
                      have y10 := bne_of x10
                      go_wp2_with ((at_builtin; refine wpList_app2 (by rfl) (.tmp 186) (.tmp 192) 23 (by rfl) (by rfl) (by rfl) (HA.out _ (by exact rfl) (by exact rfl) (by exact rfl) (by exact rfl)) ?_; rintro ao1 cap1 w1 hfin; have hcell4 := HBq.out w1 (fun wx f1 f2 f3 f4 => (hfin.out wx f1 f2 f3 f4).kp)))
                      (try simp only [Exit.inBlock, Exit.then]); refine bodyPost_ret (results_tmp5 rfl _ _ _) rfl ?_
                      exact rc_ret Hst.out.1 (by rw [← hU.out, Hun.out, if_neg hn44.out, if_pos he10.out]) (acc_push HS.out hfin.out) (p := q + 1) (by rw [← Hm.out]; omega) rfl (by go_num) (by go_num) rfl
                  · have he44 := hide (u8_eq (k := 44) x44)
                    have y44 := bne_of x44
                    have x10 : ((d.toNat : Int) == 10) = false := by rw [he44.out]; rfl
                    go_wp2_with ((at_builtin; refine wpList_app2 (by rfl) (.tmp 186) (.tmp 192) 23 (by rfl) (by rfl) (by rfl) (HA.out _ (by exact rfl) (by exact rfl) (by exact rfl) (by exact rfl)) ?_; rintro ao1 cap1 w1 hfin; have hcell4 := HBq.out w1 (fun wx f1 f2 f3 f4 => (hfin.out wx f1 f2 f3 f4).kp)))
                    go_roundg (m + 1 - (q + 1))
                    case measure => omega
                    case rel => exact ⟨q + 1, l1, by go_num, rfl, by omega, rfl, fs ++ [B], acc_push HS.out hfin.out, by rw [← hU.out, Hun.out, if_pos he44.out], by rw [← Hm.out]; omega, by simp; have := Hfl.out; omega⟩
                · obtain rfl : q = m := by omega
                  have hqlt' : ¬ (q : Int) < q := by omega
                  go_wp2_with ((at_builtin; refine wpList_app2 (by rfl) (.tmp 186) (.tmp 192) 23 (by rfl) (by rfl) (by rfl) (HA.out _ (by exact rfl) (by exact rfl) (by exact rfl) (by exact rfl)) ?_; rintro ao1 cap1 w1 hfin))
                  (try simp only [Exit.inBlock, Exit.then]); refine bodyPost_ret (results_tmp5 rfl _ _ _) rfl ?_
                  exact rc_ret Hst.out.1 (by rw [← hU.out, unq_end Hm.out]) (acc_push HS.out hfin.out) (by rw [← Hm.out]; exact Nat.le_refl _) rfl rfl rfl rfl
            · have he34 := hide (u8_eq (k := 34) x34)
              go_wp2_with fail
              clear hcell1 x34 hp1lt'
              go_loopg [1, 2, 13, 14] (m + 1 - (p1 + 1)) (fun gk s1 s2 s13 s14 w3 => ∃ (r l2 : Nat) (cl : Bool), s1 = .int .i64 r ∧ s2 = .int .i64 l2 ∧ s14 = .bool cl ∧ r ≤ m ∧ gk = (if cl then 0 else m + 1 - r) ∧ Hid (ZQ w2 t fs X.1 M p1 r l2 cl s13 w3))
              case atStart => exact ⟨p1 + 1, l1, false, by go_num, rfl, rfl, by omega, rfl, [], Acc.nil w2 5, by rw [← Hm.out]; omega, Nat.zero_le _, Nat.le_refl _, fun _ => by rw [← Hfld.out, fld_q2 (by rw [Hget1.out, he34.out])], fun e => by cases e⟩
              case round =>
                obtain ⟨r, l2, cl, rfl, rfl, rfl, hrm, rfl, hZ⟩ := hrel
                obtain ⟨w3, rfl⟩ : ∃ w3, w3 = wr := ⟨wr, rfl⟩
                obtain ⟨buf, hbacc, hb1, hb2, hb3, hb4, hb5⟩ := hZ.out
                have HKw : Hid (Kp (fun _ => False) w w3) := Hacc.out.kp.trans (hbacc.kp.mono (fun _ _ e => e.elim))
                have Hbacc := hide hbacc
                have Hb5 := hide hb5
                have Hb4 := hide hb4
                have Hb3 := hide hb3
                obtain ⟨ba, bcap, hs13⟩ := own_form2 hbacc.own
                subst hs13
                rw [← Hm.out] at hb1
                have hl2 : (l2 : Int) ≤ 3048576 := by omega
                have hrm' : (r : Int) ≤ m := by omega
                clear hZ hbacc hb3 hb4 hb5
                cases cl
                · have Hq := hide (Hb4.out rfl)
                  by_cases hrlt : r < m
                  · have hrlt' : (r : Int) < m := by omega
                    have hrge : ¬ ((m : Int) ≤ r) := by omega
                    obtain ⟨b2, o2, d, hao2, hcell2, hget2⟩ := HT.out.get HKw.out (j := r) (by rw [← Hm.out]; exact hrlt)
                    cases hao2
                    have Hget2 := hide hget2
                    clear hget2
                    have Hqa := hide (quo_at (b := buf) (fs := fs) (ln := l2) Hget2.out)
                    cases x34' : ((d.toNat : Int) == 34)
                    · have hn34 := hide (u8_not (k := 34) x34')
                      have HA := hide (fun (W : World) e1 e2 e3 e4 => Hbacc.out.app (.int .u8 d.toNat) rfl Tryz.underlying22 Tryz.info5 rfl (by decide) W e1 e2 e3 e4 (by rw [bcs_length]; omega))
                      cases x10 : ((d.toNat : Int) == 10)
                      · have hn10 := hide (u8_not (k := 10) x10)
                        go_wp2_with ((at_builtin; refine wpList_app2 (by rfl) (.tmp 82) (.tmp 84) 22 (by rfl) (by rfl) (by rfl) (HA.out _ (by exact rfl) (by exact rfl) (by exact rfl) (by exact rfl)) ?_; rintro ao1 cap1 w1 hfin))
                        go_roundg (m + 1 - (r + 1))
                        case measure => first | omega | (simp; omega)
                        case rel => exact ⟨r + 1, l2, false, by go_num, rfl, rfl, by omega, rfl, buf ++ [d], acc_pushb hfin.out, by rw [← Hm.out]; omega, by simp; omega, by have := Hb3.out; omega, fun _ => by rw [← Hq.out, Hqa.out, if_neg hn34.out, if_neg hn10.out], fun e => by cases e⟩
                      · have he10 := hide (u8_eq (k := 10) x10)
                        go_wp2_with ((at_builtin; refine wpList_app2 (by rfl) (.tmp 82) (.tmp 84) 22 (by rfl) (by rfl) (by rfl) (HA.out _ (by exact rfl) (by exact rfl) (by exact rfl) (by exact rfl)) ?_; rintro ao1 cap1 w1 hfin))
                        go_roundg (m + 1 - (r + 1))
                        case measure => first | omega | (simp; omega)
                        case rel => exact ⟨r + 1, l2 + 1, false, by go_num, by go_num, rfl, by omega, rfl, buf ++ [d], acc_pushb hfin.out, by rw [← Hm.out]; omega, by simp; omega, by have := Hb3.out; omega, fun _ => by rw [← Hq.out, Hqa.out, if_neg hn34.out, if_pos he10.out], fun e => by cases e⟩
                    · have he34' := hide (u8_eq (k := 34) x34')
                      by_cases hr1 : r + 1 < m
                      · have hr1' : (r : Int) + 1 < m := by omega
                        obtain ⟨b3, o3, d3, hao3, hcell3, hget3⟩ := HT.out.get HKw.out (j := r + 1) (by rw [← Hm.out]; exact hr1)
                        cases hao3
                        have Hget3 := hide hget3
                        clear hget3
                        cases y34 : ((d3.toNat : Int) == 34)
                        · have hn34 := hide (u8_not (k := 34) y34)
                          go_wp2_with fail
                          go_roundg 0
                          case measure => first | omega | (simp; omega)
                          case rel => exact ⟨r + 1, l2, true, by go_num, rfl, rfl, by omega, rfl, buf, Hbacc.out, by rw [← Hm.out]; omega, by omega, by have := Hb3.out; omega, fun e => (by cases e), fun _ => ⟨by rw [← Hq.out, Hqa.out, if_pos he34'.out], by rw [head_at Hget3.out]; intro e; exact hn34.out (Option.some.inj e)⟩⟩
                        · have he := hide (u8_eq (k := 34) y34)
                          have HA := hide (fun (W : World) e1 e2 e3 e4 => Hbacc.out.app (.int .u8 ((34 : UInt8).toNat : Int)) rfl Tryz.underlying22 Tryz.info5 rfl (by decide) W e1 e2 e3 e4 (by rw [bcs_length]; omega))
                          go_wp2_with ((at_builtin; refine wpList_app2 (by rfl) (.tmp 101) (.tmp 102) 22 (by rfl) (by rfl) (by rfl) (HA.out _ (by exact rfl) (by exact rfl) (by exact rfl) (by exact rfl)) ?_; rintro ao1 cap1 w1 hfin))
                          go_roundg (m + 1 - (r + 2))
                          case measure => first | omega | (simp; omega)
                          case rel => exact ⟨r + 2, l2, false, by go_num, rfl, rfl, by omega, rfl, buf ++ [34], acc_pushb hfin.out, by rw [← Hm.out]; omega, by simp; omega, by have := Hb3.out; omega, fun _ => by rw [← Hq.out, Hqa.out, if_pos he34'.out, aft_at Hget3.out, if_pos he.out], fun e => by cases e⟩
                      · have hr1' : ¬ ((r : Int) + 1 < m) := by omega
                        go_wp2_with fail
                        go_roundg 0
                        case measure => first | omega | (simp; omega)
                        case rel => exact ⟨r + 1, l2, true, by go_num, rfl, rfl, by omega, rfl, buf, Hbacc.out, by rw [← Hm.out]; omega, by omega, by have := Hb3.out; omega, fun e => (by cases e), fun _ => ⟨by rw [← Hq.out, Hqa.out, if_pos he34'.out], head_end (by rw [← Hm.out]; omega)⟩⟩
                  · obtain rfl : r = m := by omega
                    have hrlt' : ((r : Int) ≤ r) := by omega
                    go_wp2
                    (try simp only [Exit.inBlock, Exit.then]); refine bodyPost_ret (results_tmp5 rfl _ _ _) rfl ?_
                    exact rc_ret Hst.out.1 (by rw [← Hq.out, quo_end Hm.out]) (acc_none HKw.out) (by rw [← Hm.out]; exact Nat.le_refl _) rfl rfl rfl rfl
                · have Hq := hide (Hb5.out rfl)
                  have hs3 := conv_acc Hbacc.out (W := w3) rfl
                  obtain ⟨S, hS⟩ : ∃ S : ByteArray, S = ⟨buf.toArray⟩ := ⟨_, rfl⟩
                  rw [← hS] at hs3
                  have HS := hide hS
                  clear hS
                  have Hacc3 := hide (Hacc.out.quiet Hbacc.out.kp)
                  have HA := hide (fun (W : World) e1 e2 e3 e4 => Hacc3.out.app (.string S) rfl Tryz.underlying23 Tryz.info9 rfl (by decide) W e1 e2 e3 e4 (by rw [scs_length]; have := Hfl.out; omega))
                  by_cases hrlt : r < m
                  · have hrlt' : (r : Int) < m := by omega
                    have hrge : ¬ ((m : Int) ≤ r) := by omega
                    obtain ⟨b2, o2, d, hao2, hcell2, hget2⟩ := HT.out.get HKw.out (j := r) (by rw [← Hm.out]; exact hrlt)
                    cases hao2
                    have Hget2 := hide hget2
                    clear hget2
                    have hn34 : Hid (d ≠ 34) := fun e => Hq.out.2 (by rw [head_at Hget2.out, e])
                    have Hqa := hide (aft_at (b := buf) (fs := fs) (ln := l2) Hget2.out)
                    have Hqb : Hid (X.1 = if d = 10 then (⟨fs ++ [buf], t.drop (r + 1), l2 + 1, 0⟩ : Out) else if d = 44 then fld (t.drop (r + 1)) (fs ++ [buf]) l2 else ⟨[], skipL (t.drop r), skipN (t.drop r) l2, 2⟩) := hide (by rw [← Hq.out.1, Hqa.out, if_neg hn34.out])
                    have HB : Hid (∀ w1 : World, (∀ wx : World, wx.heap = w1.heap → wx.os = w1.os → wx.tape = w1.tape → wx.output = w1.output → Kp (fun _ => False) w wx) → w1.cell? ⟨b, o + r, none⟩ = some (.int .u8 d.toNat)) := fun w1 h => by
                      obtain ⟨b4, o4, h1, h2⟩ := (HT.out.kept (h w1 rfl rfl rfl rfl)).at_ (j := r) (by rw [← Hm.out]; exact hrlt)
                      cases h1
                      rw [h2]
                      obtain ⟨h3, h4⟩ := List.getElem?_eq_some_iff.1 Hget2.out
                      rw [h4]
                    clear hcell2
                    cases x10 : ((d.toNat : Int) == 10)
                    · have hn10 := hide (u8_not (k := 10) x10)
                      cases x44 : ((d.toNat : Int) == 44)
                      · have hn44 := hide (u8_not (k := 44) x44)
                        go_wp2_with ((at_builtin; refine wpList_app2 (by rfl) (.tmp 108) (.tmp 111) 23 (by rfl) (by rfl) (by rfl) (HA.out _ (by exact rfl) (by exact rfl) (by exact rfl) (by exact rfl)) ?_; rintro ao1 cap1 w1 hfin; have hcell4 := HB.out w1 (fun wx f1 f2 f3 f4 => (hfin.out wx f1 f2 f3 f4).kp)))
                        have HK := hide (HSK.out w1 (hfin.out w1 rfl rfl rfl rfl).kp r l2 hrm (by omega))
                        go_wp2_with ((go_at_call 28; refine HK.out.mono ?_; rintro e w4 ⟨rfl, np, rfl, hnp, hnd⟩))
                        (try simp only [Exit.inBlock, Exit.then]); refine bodyPost_ret (results_tmp5 rfl _ _ _) rfl ?_
                        exact rc_ret Hst.out.1 (by rw [Hqb.out, if_neg hn10.out, if_neg hn44.out]) (acc_none (hfin.out w4 rfl rfl rfl rfl).kp) hnp hnd rfl rfl rfl
                      · have he44 := hide (u8_eq (k := 44) x44)
                        go_wp2_with ((at_builtin; refine wpList_app2 (by rfl) (.tmp 108) (.tmp 111) 23 (by rfl) (by rfl) (by rfl) (HA.out _ (by exact rfl) (by exact rfl) (by exact rfl) (by exact rfl)) ?_; rintro ao1 cap1 w1 hfin; have hcell4 := HB.out w1 (fun wx f1 f2 f3 f4 => (hfin.out wx f1 f2 f3 f4).kp)))
                        go_roundg (m + 1 - (r + 1))
                        case measure => have := Hb3.out; omega
                        case rel => exact ⟨r + 1, l2, by go_num, rfl, by omega, rfl, fs ++ [buf], acc_push HS.out hfin.out, by rw [Hqb.out, if_neg hn10.out, if_pos he44.out], by rw [← Hm.out]; omega, by simp; have := Hfl.out; have := Hb3.out; omega⟩
                    · have he10 := hide (u8_eq (k := 10) x10)
                      go_wp2_with ((at_builtin; refine wpList_app2 (by rfl) (.tmp 108) (.tmp 111) 23 (by rfl) (by rfl) (by rfl) (HA.out _ (by exact rfl) (by exact rfl) (by exact rfl) (by exact rfl)) ?_; rintro ao1 cap1 w1 hfin; have hcell4 := HB.out w1 (fun wx f1 f2 f3 f4 => (hfin.out wx f1 f2 f3 f4).kp)))
                      (try simp only [Exit.inBlock, Exit.then]); refine bodyPost_ret (results_tmp5 rfl _ _ _) rfl ?_
                      exact rc_ret Hst.out.1 (by rw [Hqb.out, if_pos he10.out]) (acc_push HS.out hfin.out) (p := r + 1) (by rw [← Hm.out]; omega) rfl (by go_num) (by go_num) rfl
                  · obtain rfl : r = m := by omega
                    have hrlt' : ((r : Int) ≤ r) := by omega
                    go_wp2_with ((at_builtin; refine wpList_app2 (by rfl) (.tmp 108) (.tmp 111) 23 (by rfl) (by rfl) (by rfl) (HA.out _ (by exact rfl) (by exact rfl) (by exact rfl) (by exact rfl)) ?_; rintro ao1 cap1 w1 hfin))
                    (try simp only [Exit.inBlock, Exit.then]); refine bodyPost_ret (results_tmp5 rfl _ _ _) rfl ?_
                    exact rc_ret Hst.out.1 (by rw [← Hq.out.1, aft_end Hm.out]) (acc_push HS.out hfin.out) (by rw [← Hm.out]; exact Nat.le_refl _) rfl rfl rfl rfl
          · have hp1lt' : ¬ (p1 : Int) < m := by omega
            have hp1m : p1 = m := by omega
            have Hp1m := hide hp1m
            clear hp1m
            go_wp2_with fail
            clear hp1lt'
            go_loopg [18] (m - p1) (fun gk s18 wq => ∃ q : Nat, s18 = .int .i64 q ∧ p1 ≤ q ∧ q ≤ m ∧ gk = m - q ∧ w2 = wq ∧ Hid (unq (t.drop q) ((t.drop p1).take (q - p1)) fs l1 = X.1))
            case atStart => exact ⟨p1, rfl, Nat.le_refl _, hp1, rfl, rfl, hide (by rw [← Hfld.out, fld_end (Hp1m.out.trans Hm.out)])⟩
            case round =>
              obtain ⟨q, rfl, hpq, hqm, rfl, rfl, hU⟩ := hrel
              have hpq' : (p1 : Int) ≤ q := by omega
              have hqm' : (q : Int) ≤ m := by omega
              obtain ⟨a2, n2, c2, hs1, hs2⟩ := HCT.out w2 Hacc.out.kp p1 q hpq hqm
              have hs3 := hs2 w2 rfl
              clear hs2
              obtain ⟨B, hB⟩ : ∃ B, B = (t.drop p1).take (q - p1) := ⟨_, rfl⟩
              rw [← hB] at hs3 hU
              have HB := hide hB
              clear hB
              obtain ⟨S, hS⟩ : ∃ S : ByteArray, S = ⟨B.toArray⟩ := ⟨_, rfl⟩
              rw [← hS] at hs3
              have HS := hide hS
              clear hS
              have HA := hide (fun (W : World) e1 e2 e3 e4 => Hacc.out.app (.string S) rfl Tryz.underlying23 Tryz.info9 rfl (by decide) W e1 e2 e3 e4 (by rw [scs_length]; have := Hfl.out; omega))
              by_cases hqlt : q < m
              · exfalso
                have := Hp1m.out
                omega
              · obtain rfl : q = m := by omega
                have hqlt' : ¬ (q : Int) < q := by omega
                go_wp2_with ((at_builtin; refine wpList_app2 (by rfl) (.tmp 186) (.tmp 192) 23 (by rfl) (by rfl) (by rfl) (HA.out _ (by exact rfl) (by exact rfl) (by exact rfl) (by exact rfl)) ?_; rintro ao1 cap1 w1 hfin))
                (try simp only [Exit.inBlock, Exit.then]); refine bodyPost_ret (results_tmp5 rfl _ _ _) rfl ?_
                exact rc_ret Hst.out.1 (by rw [← hU.out, unq_end Hm.out]) (acc_push HS.out hfin.out) (by rw [← Hm.out]; exact Nat.le_refl _) rfl rfl rfl rfl
      · go_wp2_with fail
        go_roundg (m - (p + 1))
        case measure => omega
        case rel => exact ⟨p + 1, ln + 1, by go_num, by go_num, by omega, rfl, rfl, by omega, hide (by rw [← hR.out, skipB_step Hget.out, if_pos (u8_eq (k := 10) x10)])⟩
    · obtain rfl : p = m := by omega
      have Hst := hide (record_end HX.out hR.out Hm.out)
      have hlt' : ¬ (p : Int) < p := by omega
      go_wp2
      (try simp only [Exit.inBlock, Exit.then]); refine bodyPost_ret (results_tmp5 rfl _ _ _) rfl ?_
      exact rc_ret Hst.out.1 Hst.out.2 (acc_none (Kp.refl _ _)) (by rw [← Hm.out]; exact Nat.le_refl _) rfl rfl rfl rfl
end Go.Proofs.Qxb6615582aGreatFmt
