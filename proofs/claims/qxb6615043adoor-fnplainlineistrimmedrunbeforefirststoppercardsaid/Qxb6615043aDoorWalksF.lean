import Derived.Test.Qxb6615043aDoorWalksE
import Derived.Test.Qxb6615043aDoorPlain4
import Derived.Deep.QuietTactic
import Derived.BigQuiet
import Derived.Deep.RegionWith
import Derived.WalkSmall
namespace Go.Proofs.Qxb6615043aDoor
open Go.RowKit

set_option maxRecDepth 100000 in
set_option maxHeartbeats 1000000 in
theorem plainLine_any {w : World} {pb : Nat} {ad : Addr} {l : List UInt8} {pos : Nat} (h : PA w pb (some ad) l pos) (hp : pos ≤ l.length) (c : Int) :
    Calls Tryd.prog 18 #[.pointer (some ⟨pb, 0, none⟩), .int .i64 c] w fun e w' => (∃ ad', e = .returned (.slice (some ad') (tr l pos (st l pos (flowB c) pos) - pos) (l.length - pos)) ∧ (l.length - pos ≠ 0 → ad' = ad.add pos)) ∧ PA w' pb (some ad) l (tr l pos (st l pos (flowB c) pos)) ∧ Below pb w w' := by
  have hc := h.pos
  have H := hide h
  clear h
  go_enter Tryd.func18, Tryd.ntmps18
  go_wp2
  go_quiet (fail)
  go_wp2
  have hBq : Hid (Below w.heap.size w (w.drewN nq)) := below_drewN (Below.refl _ _) _
  go_loopw [6] (fun v wr => ∃ k en : Nat, k ≤ l.length ∧ v = .int .i64 en ∧ Hid (J l pos (flowB c) k en) ∧ Hid (PA wr pb (some ad) l k) ∧ Hid (Below pb w wr)) (fun _ wr => l.length + 1 - posOf wr pb)
  case atStart => exact ⟨pos, pos, hp, rfl, J.begin hp, H.out.later hBq.out, hBq.out.mono (Nat.le_of_lt H.out.siz)⟩
  case round =>
    obtain ⟨k, en, hk, rfl, hJ, hP, hB⟩ := hrel
    have hlen := hP.out.len
    go_wp2_with fail
    refine (skipWhite_any hP.out hk).mono ?_
    rintro e w1 ⟨rfl, hP1, hB1⟩
    obtain ⟨h1, h2, h3, h4⟩ := sk_bd hk
    by_cases hm : k < sk l k
    · have hpc := hP1.pos
      have HP1 := hide hP1
      have HB1 := hide hB1
      clear hP1 hB1 h4 h3
      cases hq : pcB l (sk l k) (flowB c) true
      · have Hq := hide hq
        clear hq
        go_wp2_with fail
        refine (plainChar_any HP1.out _ h2 c true).mono ?_
        rintro e w2 ⟨rfl, hB2⟩
        have hq := Hq.out
        have hP2 := HP1.out.later hB2
        have hsr := hP2.src
        have hps := hP2.pos
        have hfz := hP2.frz
        have hen := hJ.out.bd
        have HP2 := hide hP2
        have HB2 := hide hB2
        clear hP2 hB2
        have hfin := hide (hJ.out.stop hm Hq.out)
        go_wp2
        go_ret
        rw [hfin.out]
        refine ⟨?_, HP2.out.move en, (hB.out.trans (HB1.out.trans (HB2.out.mono (Nat.le_of_lt HP1.out.siz)))).setCell (Nat.le_refl _) _⟩
        exact ⟨_, rfl, fun _ => rfl⟩
      · have Hq := hide hq
        clear hq
        go_wp2_with fail
        refine (plainChar_any HP1.out _ h2 c true).mono ?_
        rintro e w2 ⟨rfl, hB2⟩
        have hq := Hq.out
        have hP2 := HP1.out.later hB2
        have HP2 := hide hP2
        have HB2 := hide hB2
        clear hP2 hB2
        go_wp2
        go_roundw
        case rel => exact ⟨sk l k, en, h2, rfl, hJ.out.on hm Hq.out, HP2.out, hB.out.trans (HB1.out.trans (HB2.out.mono (Nat.le_of_lt HP1.out.siz)))⟩
        case measure =>
          show l.length + 1 - posOf w2 pb < l.length + 1 - posOf wr pb
          rw [HP2.out.posOf, hP.out.posOf]
          omega
    · have hks : sk l k = k := by omega
      rw [hks] at hP1 h3
      have HP1 := hide hP1
      have HB1 := hide hB1
      have H3 := hide h3
      have hd : decide (k < sk l k) = false := decide_eq_false hm
      have hpc := hP1.pos
      have hfz := hP1.frz
      clear hP1 hB1 h4 h3 h1 h2 hm hks
      obtain ⟨aw, haw, hbq⟩ : ∃ aw, decide (k = pos) = aw ∧ ((k : Int) == (pos : Int)) = aw := ⟨_, rfl, by rw [Bool.eq_iff_iff]; simp; omega⟩
      have Haw := hide haw
      clear haw
      have hPd : Hid (PA w1.drew pb (some ad) l k) := HP1.out.later (Below.refl _ _).drew
      cases hq : pcB l k (flowB c) aw
      · have Hq := hide hq
        clear hq
        have hfin := hide (hJ.out.halt H3.out (by rw [Haw.out]; exact Hq.out))
        have hC : Hid (Calls Tryd.prog 22 #[.pointer (some ⟨pb, 0, none⟩), .int .i64 k, .int .i64 c, .bool aw] w1.drew fun e w' => e = .returned (.bool false) ∧ Below w1.drew.heap.size w1.drew w') := by
          have hx := plainChar_any hPd.out k hk c aw
          rw [Hq.out] at hx
          exact hx
        go_wp2_with fail
        go_region_with (go_at_call 22; refine hC.out.mono ?_; rintro e w2 ⟨rfl, hB2⟩)
        all_goals
          have hP2 := hPd.out.later hB2
          have hsr := hP2.src
          have hps := hP2.pos
          have hfz2 := hP2.frz
          have hen := hJ.out.bd
          have HP2 := hide hP2
          have HB2 : Hid (Below w1.heap.size w1 w2) := (Below.refl _ _).drew.trans hB2
          clear hP2 hB2
          go_wp2
          · go_ret
            rw [hfin.out]
            exact ⟨⟨ad, rfl⟩, HP2.out.move en, (hB.out.trans (HB1.out.trans (HB2.out.mono (Nat.le_of_lt HP1.out.siz)))).setCell (Nat.le_refl _) _⟩
          · go_ret
            rw [hfin.out]
            exact ⟨⟨_, rfl, fun _ => rfl⟩, HP2.out.move en, (hB.out.trans (HB1.out.trans (HB2.out.mono (Nat.le_of_lt HP1.out.siz)))).setCell (Nat.le_refl _) _⟩
      · have Hq := hide hq
        clear hq
        have hst := hide (hJ.out.step H3.out (by rw [Haw.out]; exact Hq.out))
        have hrb := rn_bd (pc_lt Hq.out)
        have hC : Hid (Calls Tryd.prog 22 #[.pointer (some ⟨pb, 0, none⟩), .int .i64 k, .int .i64 c, .bool aw] w1.drew fun e w' => e = .returned (.bool true) ∧ Below w1.drew.heap.size w1.drew w') := by
          have hx := plainChar_any hPd.out k hk c aw
          rw [Hq.out] at hx
          exact hx
        go_wp2_with fail
        go_region_with (go_at_call 22; refine hC.out.mono ?_; rintro e w2 ⟨rfl, hB2⟩)
        all_goals
          have hP2 := hPd.out.later hB2
          have hps := hP2.pos
          have HP2 := hide hP2
          have HB2 : Hid (Below w1.heap.size w1 w2) := (Below.refl _ _).drew.trans hB2
          clear hP2 hB2
          go_wp2_with fail
          refine (runeAt_any HP2.out k).mono ?_
          rintro e w3 ⟨rfl, hB3⟩
          have hP3 := HP2.out.later hB3
          have hps3 := hP3.pos
          have hfz3 := hP3.frz
          have HP3 := hide hP3
          have HB3 : Hid (Below w1.heap.size w1 w3) := HB2.out.trans (hB3.mono HB2.out.size)
          have hmv := hide (hP3.move (k + (rn l k).2))
          clear hP3 hB3
          go_wp2
          go_roundw
          case rel => exact ⟨k + (rn l k).2, k + (rn l k).2, hrb.2, by go_num, hst.out, hmv.out, (hB.out.trans (HB1.out.trans (HB3.out.mono (Nat.le_of_lt HP1.out.siz)))).setCell (Nat.le_refl _) _⟩
          case measure =>
            show l.length + 1 - posOf (w3.setCell ⟨pb, 2, none⟩ (.int .i64 ((k + (rn l k).2 : Nat) : Int))) pb < l.length + 1 - posOf wr pb
            rw [hmv.out.posOf, hP.out.posOf]
            omega

set_option maxRecDepth 100000 in
set_option maxHeartbeats 1000000 in
theorem plainLine_nil {w : World} {pb : Nat} (h : PA w pb none [] 0) (c : Int) :
    Calls Tryd.prog 18 #[.pointer (some ⟨pb, 0, none⟩), .int .i64 c] w fun e w' => e = .returned (.slice none 0 0) ∧ PA w' pb none [] 0 ∧ Below pb w w' := by
  have hc := h.pos
  have H := hide h
  clear h
  go_enter Tryd.func18, Tryd.ntmps18
  go_wp2
  go_quiet (fail)
  go_wp2
  have hPq : Hid (PA (w.drewN nq) pb none [] 0) := H.out.later (below_drewN (Below.refl _ _) _)
  go_loopw [6] (fun v wr => v = .int .i64 0 ∧ Hid (PA wr pb none [] 0) ∧ Hid (Below pb w wr)) (fun _ _ => 0)
  case atStart => exact ⟨rfl, hPq, below_drewN (Below.refl _ _) _⟩
  case round =>
    obtain ⟨rfl, hP, hB⟩ := hrel
    go_wp2_with fail
    refine (skipWhite_any (pos := 0) hP.out (Nat.le_refl _)).mono ?_
    rintro e w1 ⟨rfl, hP1, hB1⟩
    have hd : decide (0 < sk [] 0) = false := rfl
    have hP1' : PA w1 pb none [] 0 := hP1
    have hps := hP1'.pos
    have hPd : Hid (PA w1.drew pb none [] 0) := hP1'.later (Below.refl _ _).drew
    have HP1 := hide hP1'
    have HB1 := hide hB1
    clear hP1 hP1' hB1
    go_wp2_with fail
    have hC : Hid (Calls Tryd.prog 22 #[.pointer (some ⟨pb, 0, none⟩), .int .i64 0, .int .i64 c, .bool true] w1.drew fun e w' => e = .returned (.bool false) ∧ Below w1.drew.heap.size w1.drew w') := by
      have hx := plainChar_any hPd.out 0 (Nat.le_refl _) c true
      rw [show pcB [] 0 (flowB c) true = false from pc_out (Nat.le_refl _) _ _] at hx
      exact hx
    go_region_with (go_at_call 22; refine hC.out.mono ?_; rintro e w2 ⟨rfl, hB2⟩)
    all_goals
      have hP2 := hPd.out.later hB2
      have hsr := hP2.src
      have hps2 := hP2.pos
      have hfz2 := hP2.frz
      have HP2 := hide hP2
      have HB2 : Hid (Below w1.heap.size w1 w2) := (Below.refl _ _).drew.trans hB2
      clear hP2 hB2
      go_wp2
      go_ret
      exact ⟨rfl, HP2.out.move 0, (hB.out.trans (HB1.out.trans (HB2.out.mono (Nat.le_of_lt HP1.out.siz)))).setCell (Nat.le_refl _) _⟩
end Go.Proofs.Qxb6615043aDoor
