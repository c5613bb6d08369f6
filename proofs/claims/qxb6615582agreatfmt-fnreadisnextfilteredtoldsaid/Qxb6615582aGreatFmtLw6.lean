import Derived.Test.Qxb6615582aGreatFmtLw5
namespace Go.Proofs.Qxb6615582aGreatFmt
open Go.RowKit

theorem norm_step {D : Bs} {i : Nat} (h : i < D.length) : norm (D.drop i) = if D[i] = 13 ∧ (i + 1 = D.length ∨ D[i + 1]? = some 10) then norm (D.drop (i + 1)) else D[i] :: norm (D.drop (i + 1)) := by
  rw [List.drop_eq_getElem_cons h, norm]
  have h1 : (List.drop (i + 1) D = [] ∨ (List.drop (i + 1) D).head? = some 10) ↔ (i + 1 = D.length ∨ D[i + 1]? = some 10) := by
    rw [List.head?_drop, List.drop_eq_nil_iff]
    constructor
    · rintro (e | e)
      · exact .inl (by omega)
      · exact .inr e
    · rintro (e | e)
      · exact .inl (by omega)
      · exact .inr e
  simp only [h1]

def NmPost (w : World) (D : Bs) (e : Ending) (w' : World) : Prop := ∃ ao cap, e = .returned (.slice ao (norm (body D)).length cap) ∧ Acc w w' 5 (.slice ao (norm (body D)).length cap) (bcs (norm (body D)))
/-- In the loop. -/
def NmR (w : World) (D : Bs) (s4 : Value) (i : Nat) (wr : World) : Prop := ∃ acc, Acc w wr 5 s4 (bcs acc) ∧ acc ++ norm (D.drop i) = norm (body D) ∧ acc.length ≤ i
theorem u8_eq {c k : UInt8} (h : ((c.toNat : Int) == (k.toNat : Int)) = true) : c = k := by
  apply UInt8.toNat_inj.1
  have := beq_iff_eq.1 h
  omega
theorem u8_ne {c k : UInt8} (h : c ≠ k) : ((c.toNat : Int) == (k.toNat : Int)) = false := by
  rw [beq_eq_false_iff_ne]
  intro e
  exact h (UInt8.toNat_inj.1 (by omega))
theorem body_parts {w : World} {dao : Option Addr} {D : Bs} (hD : Tx w dao D) : (D.length < 3 ∧ body D = D) ∨ (3 ≤ D.length ∧ ∃ b o a0 a1 a2, dao = some ⟨b, o, none⟩ ∧ w.cell? ⟨b, o, none⟩ = some (.int .u8 (a0 : UInt8).toNat) ∧ w.cell? ⟨b, o + 1, none⟩ = some (.int .u8 (a1 : UInt8).toNat) ∧ w.cell? ⟨b, o + 2, none⟩ = some (.int .u8 (a2 : UInt8).toNat) ∧ body D = if a0 = 239 ∧ a1 = 187 ∧ a2 = 191 then D.drop 3 else D) := by
  match D, hD with
  | [], _ => exact .inl ⟨by simp, rfl⟩
  | [a], _ => exact .inl ⟨by simp, by simp [body]⟩
  | [a, b], _ => exact .inl ⟨by simp, by simp [body]⟩
  | a :: b :: c :: r, hD =>
    obtain ⟨x, o, h1, h2, h3⟩ := hD (by simp)
    exact .inr ⟨by simp, x, o, a, b, c, h1, h3 0 (by simp), h3 1 (by simp), h3 2 (by simp), by simp [body]⟩

theorem NmR.start {w : World} {D : Bs} {i : Nat} (h : body D = D.drop i) : NmR w D (.slice none 0 0) i w := ⟨[], Acc.nil w 5, by rw [h]; rfl, Nat.zero_le _⟩
theorem nm_push {w w1 : World} {D acc : Bs} {c : UInt8} {i : Nat} {ao1 : Option Addr} {cap1 : Nat} (h : ∀ wx : World, wx.heap = w1.heap → wx.os = w1.os → wx.tape = w1.tape → wx.output = w1.output → Acc w wx 5 (.slice ao1 ((bcs acc).length + 1) cap1) (bcs acc ++ [.int .u8 c.toNat])) (hr : acc ++ norm (D.drop i) = norm (body D)) (hl : acc.length ≤ i) (hn : norm (D.drop i) = c :: norm (D.drop (i + 1))) {wx : World} (e1 : wx.heap = w1.heap := by rfl) (e2 : wx.os = w1.os := by rfl) (e3 : wx.tape = w1.tape := by rfl) (e4 : wx.output = w1.output := by rfl) : NmR w D (.slice ao1 ((bcs acc).length + 1) cap1) (i + 1) wx := by
  refine ⟨acc ++ [c], ?_, ?_, ?_⟩
  · have h1 := h wx e1 e2 e3 e4
    rw [show bcs (acc ++ [c]) = bcs acc ++ [.int .u8 c.toNat] by simp [bcs]]
    exact h1
  · rw [List.append_assoc, List.singleton_append, ← hn, hr]
  · simp; exact hl
theorem nm_end {w wr : World} {D acc : Bs} {ab : Option Addr} {acap : Nat} (h : Acc w wr 5 (.slice ab (bcs acc).length acap) (bcs acc)) (hn : acc = norm (body D)) {wx : World} (e1 : wx.heap = wr.heap := by rfl) (e2 : wx.os = wr.os := by rfl) (e3 : wx.tape = wr.tape := by rfl) (e4 : wx.output = wr.output := by rfl) : NmPost w D (.returned (.slice ab (bcs acc).length acap)) wx := by
  subst hn
  rw [bcs_length] at h
  have hk : Kp (fun _ => False) wr wx := Kp.heap (Kp.refl _ _) e1 e2 e3 e4
  exact ⟨ab, acap, by rw [bcs_length], h.quiet hk⟩
set_option maxRecDepth 100000 in
set_option maxHeartbeats 8000000 in
/-- zzNorm. -/
theorem norm_c {w : World} {dao : Option Addr} {dc : Nat} {D : Bs} (hD : Tx w dao D) (hl : D.length ≤ 1048576) :
    Calls Tryz.prog 11 #[.slice dao D.length dc] w (NmPost w D) := by
  have HD := hide hD
  have hst := hide (body_parts hD)
  clear hD
  obtain ⟨m, hmm⟩ : ∃ m, m = D.length := ⟨_, rfl⟩
  rw [← hmm] at hl hst ⊢
  have Hm := hide hmm
  clear hmm
  have hl' : (m : Int) ≤ 1048576 := by omega
  go_enter Tryz.func11, Tryz.ntmps11
  have hst2 : Hid (∃ i0 : Nat, i0 ≤ m ∧ NmR w D (.slice none 0 0) i0 w ∧ ((m < 3 ∧ i0 = 0) ∨ (3 ≤ m ∧ ∃ b o a0 a1 a2, dao = some ⟨b, o, none⟩ ∧ w.cell? ⟨b, o, none⟩ = some (.int .u8 (a0 : UInt8).toNat) ∧ w.cell? ⟨b, o + 1, none⟩ = some (.int .u8 (a1 : UInt8).toNat) ∧ w.cell? ⟨b, o + 2, none⟩ = some (.int .u8 (a2 : UInt8).toNat) ∧ i0 = if a0 = 239 ∧ a1 = 187 ∧ a2 = 191 then 3 else 0))) := by
    rcases hst.out with ⟨h3, hb⟩ | ⟨h3, b, o, a0, a1, a2, hao, c0, c1, c2, hb⟩
    · exact ⟨0, Nat.zero_le _, NmR.start (by rw [hb]; rfl), .inl ⟨h3, rfl⟩⟩
    · refine ⟨_, ?_, NmR.start ?_, .inr ⟨h3, b, o, a0, a1, a2, hao, c0, c1, c2, rfl⟩⟩
      · split <;> omega
      · rw [hb]; split <;> rfl
  clear hst
  obtain ⟨i0, hi0, hN, hcase⟩ := hst2.out
  have HN := hide hN
  clear hst2 hN
  rcases hcase with ⟨h3, hb⟩ | ⟨h3, b, o, a0, a1, a2, hao, c0, c1, c2, hb⟩
  · have h3' : ¬ (3 : Int) ≤ m := by omega
    subst hb
    go_wp2_with fail
    clear h3'
    go_loopg [4, 5] (m - 0) (fun gk s4 s5 wr => ∃ i : Nat, s5 = .int .i64 i ∧ i ≤ m ∧ gk = m - i ∧ Hid (NmR w D s4 i wr))
    case atStart => exact ⟨0, rfl, hi0, rfl, HN.out⟩
    case round =>
      obtain ⟨i, rfl, hi, rfl, hR⟩ := hrel
      obtain ⟨acc, hacc, hrel, hal⟩ := hR.out
      have Hacc := hide hacc
      have Hrel := hide hrel
      have Hal := hide hal
      obtain ⟨ab, acap, hs4⟩ := own_form2 hacc.own
      subst hs4
      clear hR hacc hrel hal
      by_cases him : i < m
      · have him' : (i : Int) < m := by omega
        have hiD : i < D.length := by rw [← Hm.out]; exact him
        obtain ⟨b, o, hao, hc⟩ := (HD.out.kept Hacc.out.kp).at_ hiD
        cases hao
        obtain ⟨c, hcc⟩ : ∃ c, c = D[i] := ⟨_, rfl⟩
        rw [← hcc] at hc
        have HA := hide (fun (W : World) e1 e2 e3 e4 => Hacc.out.app (.int .u8 c.toNat) rfl Tryz.underlying22 Tryz.info5 rfl (by decide) W e1 e2 e3 e4 (by rw [bcs_length]; have := Hal.out; omega))
        have Hns := hide (norm_step hiD)
        rw [← hcc, ← Hm.out] at Hns
        clear hcc
        have HiD := hide hiD
        clear hiD
        cases x13 : ((c.toNat : Int) == 13)
        · go_wp2_with ((at_builtin; refine wpList_app2 (by rfl) (.tmp 54) (.tmp 59) 22 (by rfl) (by rfl) (by rfl) (HA.out _ (by exact rfl) (by exact rfl) (by exact rfl) (by exact rfl)) ?_; rintro ao1 cap1 w1 hfin))
          go_roundg (m - (i + 1))
          case measure => omega
          case rel => exact ⟨i + 1, by go_num, by omega, rfl, nm_push hfin.out Hrel.out Hal.out (by rw [Hns.out, if_neg (by rintro ⟨e, _⟩; rw [e] at x13; cases x13)])⟩
        · by_cases hlast : i + 1 = m
          · have hl1 : ((i : Int) + 1 == m) = true := by rw [beq_iff_eq]; omega
            go_wp2_with fail
            go_roundg (m - (i + 1))
            case measure => omega
            case rel => exact ⟨i + 1, by go_num, by omega, rfl, acc, Hacc.out, by rw [← Hrel.out, Hns.out, if_pos ⟨u8_eq x13, .inl hlast⟩], by have := Hal.out; omega⟩
          · have hl1 : ((i : Int) + 1 == m) = false := by rw [beq_eq_false_iff_ne]; omega
            have hi1 : (i : Int) + 1 < m := by omega
            have hiD1 : i + 1 < D.length := by rw [← Hm.out]; omega
            obtain ⟨b', o', hao', hc'⟩ := (HD.out.kept Hacc.out.kp).at_ hiD1
            cases hao'
            obtain ⟨d, hdd⟩ : ∃ d, d = D[i + 1] := ⟨_, rfl⟩
            rw [← hdd] at hc'
            have Hd : Hid (D[i + 1]? = some d) := by rw [hdd]; exact List.getElem?_eq_getElem hiD1
            clear hdd
            have HiD1 := hide hiD1
            clear hiD1
            have hc2 : wr.cell? ⟨b, o + (i + 1), none⟩ = some (.int .u8 d.toNat) := hc'
            clear hc'
            cases x10 : ((d.toNat : Int) == 10)
            · go_wp2_with ((at_builtin; refine wpList_app2 (by rfl) (.tmp 54) (.tmp 59) 22 (by rfl) (by rfl) (by rfl) (HA.out _ (by exact rfl) (by exact rfl) (by exact rfl) (by exact rfl)) ?_; rintro ao1 cap1 w1 hfin))
              go_roundg (m - (i + 1))
              case measure => omega
              case rel => exact ⟨i + 1, by go_num, by omega, rfl, nm_push hfin.out Hrel.out Hal.out (by rw [Hns.out, Hd.out, if_neg (by rintro ⟨_, e | e⟩; exact hlast e; (have e2 := Option.some.inj e; rw [e2] at x10; cases x10))])⟩
            · go_wp2_with fail
              go_roundg (m - (i + 1))
              case measure => omega
              case rel => exact ⟨i + 1, by go_num, by omega, rfl, acc, Hacc.out, by rw [← Hrel.out, Hns.out, if_pos ⟨u8_eq x13, .inr (Hd.out.trans (congrArg some (u8_eq (k := 10) x10)))⟩], by have := Hal.out; omega⟩
      · obtain rfl : i = m := by omega
        have him' : ¬ (i : Int) < i := by omega
        have hn := Hrel.out
        rw [List.drop_of_length_le (by rw [← Hm.out]; exact Nat.le_refl _), norm, List.append_nil] at hn
        have Hn := hide hn
        clear hn
        go_wp2
        go_ret
        exact nm_end Hacc.out Hn.out
  · have h3' : (3 : Int) ≤ m := by omega
    have h30 : (0 : Int) < m := by omega
    have h31 : (1 : Int) < m := by omega
    have h32 : (2 : Int) < m := by omega
    subst hao
    cases x0 : ((a0.toNat : Int) == 239)
    · rw [if_neg (by rintro ⟨e, _⟩; rw [e] at x0; cases x0)] at hb
      subst hb
      go_wp2_with fail
      clear c0 c1 c2 x0 h30 h31 h32 h3'
      go_loopg [4, 5] (m - 0) (fun gk s4 s5 wr => ∃ i : Nat, s5 = .int .i64 i ∧ i ≤ m ∧ gk = m - i ∧ Hid (NmR w D s4 i wr))
      case atStart => exact ⟨0, rfl, hi0, rfl, HN.out⟩
      case round =>
        obtain ⟨i, rfl, hi, rfl, hR⟩ := hrel
        obtain ⟨acc, hacc, hrel, hal⟩ := hR.out
        have Hacc := hide hacc
        have Hrel := hide hrel
        have Hal := hide hal
        obtain ⟨ab, acap, hs4⟩ := own_form2 hacc.own
        subst hs4
        clear hR hacc hrel hal
        by_cases him : i < m
        · have him' : (i : Int) < m := by omega
          have hiD : i < D.length := by rw [← Hm.out]; exact him
          obtain ⟨b, o, hao, hc⟩ := (HD.out.kept Hacc.out.kp).at_ hiD
          cases hao
          obtain ⟨c, hcc⟩ : ∃ c, c = D[i] := ⟨_, rfl⟩
          rw [← hcc] at hc
          have HA := hide (fun (W : World) e1 e2 e3 e4 => Hacc.out.app (.int .u8 c.toNat) rfl Tryz.underlying22 Tryz.info5 rfl (by decide) W e1 e2 e3 e4 (by rw [bcs_length]; have := Hal.out; omega))
          have Hns := hide (norm_step hiD)
          rw [← hcc, ← Hm.out] at Hns
          clear hcc
          have HiD := hide hiD
          clear hiD
          cases x13 : ((c.toNat : Int) == 13)
          · go_wp2_with ((at_builtin; refine wpList_app2 (by rfl) (.tmp 54) (.tmp 59) 22 (by rfl) (by rfl) (by rfl) (HA.out _ (by exact rfl) (by exact rfl) (by exact rfl) (by exact rfl)) ?_; rintro ao1 cap1 w1 hfin))
            go_roundg (m - (i + 1))
            case measure => omega
            case rel => exact ⟨i + 1, by go_num, by omega, rfl, nm_push hfin.out Hrel.out Hal.out (by rw [Hns.out, if_neg (by rintro ⟨e, _⟩; rw [e] at x13; cases x13)])⟩
          · by_cases hlast : i + 1 = m
            · have hl1 : ((i : Int) + 1 == m) = true := by rw [beq_iff_eq]; omega
              go_wp2_with fail
              go_roundg (m - (i + 1))
              case measure => omega
              case rel => exact ⟨i + 1, by go_num, by omega, rfl, acc, Hacc.out, by rw [← Hrel.out, Hns.out, if_pos ⟨u8_eq x13, .inl hlast⟩], by have := Hal.out; omega⟩
            · have hl1 : ((i : Int) + 1 == m) = false := by rw [beq_eq_false_iff_ne]; omega
              have hi1 : (i : Int) + 1 < m := by omega
              have hiD1 : i + 1 < D.length := by rw [← Hm.out]; omega
              obtain ⟨b', o', hao', hc'⟩ := (HD.out.kept Hacc.out.kp).at_ hiD1
              cases hao'
              obtain ⟨d, hdd⟩ : ∃ d, d = D[i + 1] := ⟨_, rfl⟩
              rw [← hdd] at hc'
              have Hd : Hid (D[i + 1]? = some d) := by rw [hdd]; exact List.getElem?_eq_getElem hiD1
              clear hdd
              have HiD1 := hide hiD1
              clear hiD1
              have hc2 : wr.cell? ⟨b, o + (i + 1), none⟩ = some (.int .u8 d.toNat) := hc'
              clear hc'
              cases x10 : ((d.toNat : Int) == 10)
              · go_wp2_with ((at_builtin; refine wpList_app2 (by rfl) (.tmp 54) (.tmp 59) 22 (by rfl) (by rfl) (by rfl) (HA.out _ (by exact rfl) (by exact rfl) (by exact rfl) (by exact rfl)) ?_; rintro ao1 cap1 w1 hfin))
                go_roundg (m - (i + 1))
                case measure => omega
                case rel => exact ⟨i + 1, by go_num, by omega, rfl, nm_push hfin.out Hrel.out Hal.out (by rw [Hns.out, Hd.out, if_neg (by rintro ⟨_, e | e⟩; exact hlast e; (have e2 := Option.some.inj e; rw [e2] at x10; cases x10))])⟩
              · go_wp2_with fail
                go_roundg (m - (i + 1))
                case measure => omega
                case rel => exact ⟨i + 1, by go_num, by omega, rfl, acc, Hacc.out, by rw [← Hrel.out, Hns.out, if_pos ⟨u8_eq x13, .inr (Hd.out.trans (congrArg some (u8_eq (k := 10) x10)))⟩], by have := Hal.out; omega⟩
        · obtain rfl : i = m := by omega
          have him' : ¬ (i : Int) < i := by omega
          have hn := Hrel.out
          rw [List.drop_of_length_le (by rw [← Hm.out]; exact Nat.le_refl _), norm, List.append_nil] at hn
          have Hn := hide hn
          clear hn
          go_wp2
          go_ret
          exact nm_end Hacc.out Hn.out
    · cases x1 : ((a1.toNat : Int) == 187)
      · rw [if_neg (by rintro ⟨_, e, _⟩; rw [e] at x1; cases x1)] at hb
        subst hb
        go_wp2_with fail
        clear c0 c1 c2 x0 x1 h30 h31 h32 h3'
        go_loopg [4, 5] (m - 0) (fun gk s4 s5 wr => ∃ i : Nat, s5 = .int .i64 i ∧ i ≤ m ∧ gk = m - i ∧ Hid (NmR w D s4 i wr))
        case atStart => exact ⟨0, rfl, hi0, rfl, HN.out⟩
        case round =>
          obtain ⟨i, rfl, hi, rfl, hR⟩ := hrel
          obtain ⟨acc, hacc, hrel, hal⟩ := hR.out
          have Hacc := hide hacc
          have Hrel := hide hrel
          have Hal := hide hal
          obtain ⟨ab, acap, hs4⟩ := own_form2 hacc.own
          subst hs4
          clear hR hacc hrel hal
          by_cases him : i < m
          · have him' : (i : Int) < m := by omega
            have hiD : i < D.length := by rw [← Hm.out]; exact him
            obtain ⟨b, o, hao, hc⟩ := (HD.out.kept Hacc.out.kp).at_ hiD
            cases hao
            obtain ⟨c, hcc⟩ : ∃ c, c = D[i] := ⟨_, rfl⟩
            rw [← hcc] at hc
            have HA := hide (fun (W : World) e1 e2 e3 e4 => Hacc.out.app (.int .u8 c.toNat) rfl Tryz.underlying22 Tryz.info5 rfl (by decide) W e1 e2 e3 e4 (by rw [bcs_length]; have := Hal.out; omega))
            have Hns := hide (norm_step hiD)
            rw [← hcc, ← Hm.out] at Hns
            clear hcc
            have HiD := hide hiD
            clear hiD
            cases x13 : ((c.toNat : Int) == 13)
            · go_wp2_with ((at_builtin; refine wpList_app2 (by rfl) (.tmp 54) (.tmp 59) 22 (by rfl) (by rfl) (by rfl) (HA.out _ (by exact rfl) (by exact rfl) (by exact rfl) (by exact rfl)) ?_; rintro ao1 cap1 w1 hfin))
              go_roundg (m - (i + 1))
              case measure => omega
              case rel => exact ⟨i + 1, by go_num, by omega, rfl, nm_push hfin.out Hrel.out Hal.out (by rw [Hns.out, if_neg (by rintro ⟨e, _⟩; rw [e] at x13; cases x13)])⟩
            · by_cases hlast : i + 1 = m
              · have hl1 : ((i : Int) + 1 == m) = true := by rw [beq_iff_eq]; omega
                go_wp2_with fail
                go_roundg (m - (i + 1))
                case measure => omega
                case rel => exact ⟨i + 1, by go_num, by omega, rfl, acc, Hacc.out, by rw [← Hrel.out, Hns.out, if_pos ⟨u8_eq x13, .inl hlast⟩], by have := Hal.out; omega⟩
              · have hl1 : ((i : Int) + 1 == m) = false := by rw [beq_eq_false_iff_ne]; omega
                have hi1 : (i : Int) + 1 < m := by omega
                have hiD1 : i + 1 < D.length := by rw [← Hm.out]; omega
                obtain ⟨b', o', hao', hc'⟩ := (HD.out.kept Hacc.out.kp).at_ hiD1
                cases hao'
                obtain ⟨d, hdd⟩ : ∃ d, d = D[i + 1] := ⟨_, rfl⟩
                rw [← hdd] at hc'
                have Hd : Hid (D[i + 1]? = some d) := by rw [hdd]; exact List.getElem?_eq_getElem hiD1
                clear hdd
                have HiD1 := hide hiD1
                clear hiD1
                have hc2 : wr.cell? ⟨b, o + (i + 1), none⟩ = some (.int .u8 d.toNat) := hc'
                clear hc'
                cases x10 : ((d.toNat : Int) == 10)
                · go_wp2_with ((at_builtin; refine wpList_app2 (by rfl) (.tmp 54) (.tmp 59) 22 (by rfl) (by rfl) (by rfl) (HA.out _ (by exact rfl) (by exact rfl) (by exact rfl) (by exact rfl)) ?_; rintro ao1 cap1 w1 hfin))
                  go_roundg (m - (i + 1))
                  case measure => omega
                  case rel => exact ⟨i + 1, by go_num, by omega, rfl, nm_push hfin.out Hrel.out Hal.out (by rw [Hns.out, Hd.out, if_neg (by rintro ⟨_, e | e⟩; exact hlast e; (have e2 := Option.some.inj e; rw [e2] at x10; cases x10))])⟩
                · go_wp2_with fail
                  go_roundg (m - (i + 1))
                  case measure => omega
                  case rel => exact ⟨i + 1, by go_num, by omega, rfl, acc, Hacc.out, by rw [← Hrel.out, Hns.out, if_pos ⟨u8_eq x13, .inr (Hd.out.trans (congrArg some (u8_eq (k := 10) x10)))⟩], by have := Hal.out; omega⟩
          · obtain rfl : i = m := by omega
            have him' : ¬ (i : Int) < i := by omega
            have hn := Hrel.out
            rw [List.drop_of_length_le (by rw [← Hm.out]; exact Nat.le_refl _), norm, List.append_nil] at hn
            have Hn := hide hn
            clear hn
            go_wp2
            go_ret
            exact nm_end Hacc.out Hn.out
      · cases x2 : ((a2.toNat : Int) == 191)
        · rw [if_neg (by rintro ⟨_, _, e⟩; rw [e] at x2; cases x2)] at hb
          subst hb
          go_wp2_with fail
          clear c0 c1 c2 x0 x1 x2 h30 h31 h32 h3'
          go_loopg [4, 5] (m - 0) (fun gk s4 s5 wr => ∃ i : Nat, s5 = .int .i64 i ∧ i ≤ m ∧ gk = m - i ∧ Hid (NmR w D s4 i wr))
          case atStart => exact ⟨0, rfl, hi0, rfl, HN.out⟩
          case round =>
            obtain ⟨i, rfl, hi, rfl, hR⟩ := hrel
            obtain ⟨acc, hacc, hrel, hal⟩ := hR.out
            have Hacc := hide hacc
            have Hrel := hide hrel
            have Hal := hide hal
            obtain ⟨ab, acap, hs4⟩ := own_form2 hacc.own
            subst hs4
            clear hR hacc hrel hal
            by_cases him : i < m
            · have him' : (i : Int) < m := by omega
              have hiD : i < D.length := by rw [← Hm.out]; exact him
              obtain ⟨b, o, hao, hc⟩ := (HD.out.kept Hacc.out.kp).at_ hiD
              cases hao
              obtain ⟨c, hcc⟩ : ∃ c, c = D[i] := ⟨_, rfl⟩
              rw [← hcc] at hc
              have HA := hide (fun (W : World) e1 e2 e3 e4 => Hacc.out.app (.int .u8 c.toNat) rfl Tryz.underlying22 Tryz.info5 rfl (by decide) W e1 e2 e3 e4 (by rw [bcs_length]; have := Hal.out; omega))
              have Hns := hide (norm_step hiD)
              rw [← hcc, ← Hm.out] at Hns
              clear hcc
              have HiD := hide hiD
              clear hiD
              cases x13 : ((c.toNat : Int) == 13)
              · go_wp2_with ((at_builtin; refine wpList_app2 (by rfl) (.tmp 54) (.tmp 59) 22 (by rfl) (by rfl) (by rfl) (HA.out _ (by exact rfl) (by exact rfl) (by exact rfl) (by exact rfl)) ?_; rintro ao1 cap1 w1 hfin))
                go_roundg (m - (i + 1))
                case measure => omega
                case rel => exact ⟨i + 1, by go_num, by omega, rfl, nm_push hfin.out Hrel.out Hal.out (by rw [Hns.out, if_neg (by rintro ⟨e, _⟩; rw [e] at x13; cases x13)])⟩
              · by_cases hlast : i + 1 = m
                · have hl1 : ((i : Int) + 1 == m) = true := by rw [beq_iff_eq]; omega
                  go_wp2_with fail
                  go_roundg (m - (i + 1))
                  case measure => omega
                  case rel => exact ⟨i + 1, by go_num, by omega, rfl, acc, Hacc.out, by rw [← Hrel.out, Hns.out, if_pos ⟨u8_eq x13, .inl hlast⟩], by have := Hal.out; omega⟩
                · have hl1 : ((i : Int) + 1 == m) = false := by rw [beq_eq_false_iff_ne]; omega
                  have hi1 : (i : Int) + 1 < m := by omega
                  have hiD1 : i + 1 < D.length := by rw [← Hm.out]; omega
                  obtain ⟨b', o', hao', hc'⟩ := (HD.out.kept Hacc.out.kp).at_ hiD1
                  cases hao'
                  obtain ⟨d, hdd⟩ : ∃ d, d = D[i + 1] := ⟨_, rfl⟩
                  rw [← hdd] at hc'
                  have Hd : Hid (D[i + 1]? = some d) := by rw [hdd]; exact List.getElem?_eq_getElem hiD1
                  clear hdd
                  have HiD1 := hide hiD1
                  clear hiD1
                  have hc2 : wr.cell? ⟨b, o + (i + 1), none⟩ = some (.int .u8 d.toNat) := hc'
                  clear hc'
                  cases x10 : ((d.toNat : Int) == 10)
                  · go_wp2_with ((at_builtin; refine wpList_app2 (by rfl) (.tmp 54) (.tmp 59) 22 (by rfl) (by rfl) (by rfl) (HA.out _ (by exact rfl) (by exact rfl) (by exact rfl) (by exact rfl)) ?_; rintro ao1 cap1 w1 hfin))
                    go_roundg (m - (i + 1))
                    case measure => omega
                    case rel => exact ⟨i + 1, by go_num, by omega, rfl, nm_push hfin.out Hrel.out Hal.out (by rw [Hns.out, Hd.out, if_neg (by rintro ⟨_, e | e⟩; exact hlast e; (have e2 := Option.some.inj e; rw [e2] at x10; cases x10))])⟩
                  · go_wp2_with fail
                    go_roundg (m - (i + 1))
                    case measure => omega
                    case rel => exact ⟨i + 1, by go_num, by omega, rfl, acc, Hacc.out, by rw [← Hrel.out, Hns.out, if_pos ⟨u8_eq x13, .inr (Hd.out.trans (congrArg some (u8_eq (k := 10) x10)))⟩], by have := Hal.out; omega⟩
            · obtain rfl : i = m := by omega
              have him' : ¬ (i : Int) < i := by omega
              have hn := Hrel.out
              rw [List.drop_of_length_le (by rw [← Hm.out]; exact Nat.le_refl _), norm, List.append_nil] at hn
              have Hn := hide hn
              clear hn
              go_wp2
              go_ret
              exact nm_end Hacc.out Hn.out
        · rw [if_pos ⟨u8_eq x0, u8_eq x1, u8_eq x2⟩] at hb
          subst hb
          go_wp2_with fail
          clear c0 c1 c2 x0 x1 x2 h30 h31 h32 h3'
          go_loopg [4, 5] (m - 3) (fun gk s4 s5 wr => ∃ i : Nat, s5 = .int .i64 i ∧ i ≤ m ∧ gk = m - i ∧ Hid (NmR w D s4 i wr))
          case atStart => exact ⟨3, rfl, hi0, rfl, HN.out⟩
          case round =>
            obtain ⟨i, rfl, hi, rfl, hR⟩ := hrel
            obtain ⟨acc, hacc, hrel, hal⟩ := hR.out
            have Hacc := hide hacc
            have Hrel := hide hrel
            have Hal := hide hal
            obtain ⟨ab, acap, hs4⟩ := own_form2 hacc.own
            subst hs4
            clear hR hacc hrel hal
            by_cases him : i < m
            · have him' : (i : Int) < m := by omega
              have hiD : i < D.length := by rw [← Hm.out]; exact him
              obtain ⟨b, o, hao, hc⟩ := (HD.out.kept Hacc.out.kp).at_ hiD
              cases hao
              obtain ⟨c, hcc⟩ : ∃ c, c = D[i] := ⟨_, rfl⟩
              rw [← hcc] at hc
              have HA := hide (fun (W : World) e1 e2 e3 e4 => Hacc.out.app (.int .u8 c.toNat) rfl Tryz.underlying22 Tryz.info5 rfl (by decide) W e1 e2 e3 e4 (by rw [bcs_length]; have := Hal.out; omega))
              have Hns := hide (norm_step hiD)
              rw [← hcc, ← Hm.out] at Hns
              clear hcc
              have HiD := hide hiD
              clear hiD
              cases x13 : ((c.toNat : Int) == 13)
              · go_wp2_with ((at_builtin; refine wpList_app2 (by rfl) (.tmp 54) (.tmp 59) 22 (by rfl) (by rfl) (by rfl) (HA.out _ (by exact rfl) (by exact rfl) (by exact rfl) (by exact rfl)) ?_; rintro ao1 cap1 w1 hfin))
                go_roundg (m - (i + 1))
                case measure => omega
                case rel => exact ⟨i + 1, by go_num, by omega, rfl, nm_push hfin.out Hrel.out Hal.out (by rw [Hns.out, if_neg (by rintro ⟨e, _⟩; rw [e] at x13; cases x13)])⟩
              · by_cases hlast : i + 1 = m
                · have hl1 : ((i : Int) + 1 == m) = true := by rw [beq_iff_eq]; omega
                  go_wp2_with fail
                  go_roundg (m - (i + 1))
                  case measure => omega
                  case rel => exact ⟨i + 1, by go_num, by omega, rfl, acc, Hacc.out, by rw [← Hrel.out, Hns.out, if_pos ⟨u8_eq x13, .inl hlast⟩], by have := Hal.out; omega⟩
                · have hl1 : ((i : Int) + 1 == m) = false := by rw [beq_eq_false_iff_ne]; omega
                  have hi1 : (i : Int) + 1 < m := by omega
                  have hiD1 : i + 1 < D.length := by rw [← Hm.out]; omega
                  obtain ⟨b', o', hao', hc'⟩ := (HD.out.kept Hacc.out.kp).at_ hiD1
                  cases hao'
                  obtain ⟨d, hdd⟩ : ∃ d, d = D[i + 1] := ⟨_, rfl⟩
                  rw [← hdd] at hc'
                  have Hd : Hid (D[i + 1]? = some d) := by rw [hdd]; exact List.getElem?_eq_getElem hiD1
                  clear hdd
                  have HiD1 := hide hiD1
                  clear hiD1
                  have hc2 : wr.cell? ⟨b, o + (i + 1), none⟩ = some (.int .u8 d.toNat) := hc'
                  clear hc'
                  cases x10 : ((d.toNat : Int) == 10)
                  · go_wp2_with ((at_builtin; refine wpList_app2 (by rfl) (.tmp 54) (.tmp 59) 22 (by rfl) (by rfl) (by rfl) (HA.out _ (by exact rfl) (by exact rfl) (by exact rfl) (by exact rfl)) ?_; rintro ao1 cap1 w1 hfin))
                    go_roundg (m - (i + 1))
                    case measure => omega
                    case rel => exact ⟨i + 1, by go_num, by omega, rfl, nm_push hfin.out Hrel.out Hal.out (by rw [Hns.out, Hd.out, if_neg (by rintro ⟨_, e | e⟩; exact hlast e; (have e2 := Option.some.inj e; rw [e2] at x10; cases x10))])⟩
                  · go_wp2_with fail
                    go_roundg (m - (i + 1))
                    case measure => omega
                    case rel => exact ⟨i + 1, by go_num, by omega, rfl, acc, Hacc.out, by rw [← Hrel.out, Hns.out, if_pos ⟨u8_eq x13, .inr (Hd.out.trans (congrArg some (u8_eq (k := 10) x10)))⟩], by have := Hal.out; omega⟩
            · obtain rfl : i = m := by omega
              have him' : ¬ (i : Int) < i := by omega
              have hn := Hrel.out
              rw [List.drop_of_length_le (by rw [← Hm.out]; exact Nat.le_refl _), norm, List.append_nil] at hn
              have Hn := hide hn
              clear hn
              go_wp2
              go_ret
              exact nm_end Hacc.out Hn.out
end Go.Proofs.Qxb6615582aGreatFmt
