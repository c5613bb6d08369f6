import Derived.Test.Qxb6615043aDoorWalksG
namespace Go.Proofs.Qxb6615043aDoor
open Go.RowKit

theorem st_out {l : List UInt8} {start i : Nat} {flow : Bool} (h : l.length ≤ i) : st l start flow i = i :=
  st_no (by rw [fl_out h]; rfl) (pc_out h _ _)

set_option maxRecDepth 100000 in
set_option maxHeartbeats 2000000 in
theorem zzPlainModel_any {w : World} {b off : Nat} {l : List UInt8} (h : At w b off l) (cap pos : Nat) (hp : pos ≤ l.length) (hn : l.length ≤ 1048576) (flow : Bool) :
    Calls Tryd.prog 6 #[.slice (some ⟨b, off, none⟩) l.length cap, .int .i64 pos, .bool flow] w fun e w' => e = .returned (.int .i64 (tr l pos (st l pos flow pos))) ∧ ∃ m, w' = w.drewN m := by
  have H := hide h
  clear h
  -- the second loop, from whatever stop
  go_enter Tryd.func6, Tryd.ntmps6
  go_wp2
  go_loopw [7] (fun v wr => ∃ k m : Nat, pos ≤ k ∧ k ≤ l.length ∧ v = .int .i64 k ∧ Hid (st l pos flow k = st l pos flow pos) ∧ wr = w.drewN m) (fun v _ => l.length - (intOf v).toNat)
  case atStart => exact ⟨pos, 0, Nat.le_refl _, hp, rfl, rfl, rfl⟩
  case round =>
    obtain ⟨k, m, h1, h2, rfl, hs, rfl⟩ := hrel
    by_cases hk : k < l.length
    · have hk' : (k : Int) < l.length := by omega
      have hc := H.out k hk
      cases hb : blB (fl l k)
      · have Hb := hide hb
        clear hb
        cases ho : okB l pos k flow
        · have hst := hide (st_no Hb.out ho)
          have hC : Hid (Calls Tryd.prog 16 #[.slice (some ⟨b, off, none⟩) l.length cap, .int .i64 pos, .int .i64 k, .bool flow] (w.drewN m) fun e w' => e = .returned (.bool false) ∧ ∃ m', w' = (w.drewN m).drewN m') := by
            have hx := zzPlainOK_any (H.out.drewN m) cap pos k h1 hk hn flow
            rw [ho] at hx
            exact hx
          have hC2 : Hid (Calls Tryd.prog 14 #[.int .u8 (fl l k)] (w.drewN m) fun e w' => e = .returned (.bool false) ∧ w' = w.drewN m) := by
            have hx := zzBlank_any (fl l k) (w.drewN m)
            rw [Hb.out] at hx
            exact hx
          clear ho
          go_wp2_with fail
          refine hC2.out.mono ?_
          rintro e w' ⟨rfl, rfl⟩
          go_wp2_with fail
          refine hC.out.mono ?_
          rintro e w' ⟨rfl, m', rfl⟩
          have HK : Hid (st l pos flow pos = k) := hs.out.symm.trans hst.out
          clear hst hC hC2 hs
          go_wp2
          go_loopw [10] (fun v wr => ∃ e m : Nat, pos ≤ e ∧ e ≤ l.length ∧ v = .int .i64 e ∧ Hid (tr l pos e = tr l pos k) ∧ wr = w.drewN m) (fun v _ => (intOf v).toNat)
          case atStart => exact ⟨k, _, by omega, by omega, rfl, rfl, by first | rfl | (rw [World.drewN_drewN])⟩
          case round =>
            obtain ⟨e, mm, g1, g2, rfl, gt, rfl⟩ := hrel
            by_cases he : pos < e
            · obtain ⟨q, rfl⟩ : ∃ q, e = q + 1 := ⟨e - 1, by omega⟩
              have he' : (pos : Int) < (q : Int) + 1 := by omega
              have hq' : (q : Int) < l.length := by omega
              have hcq := H.out q (by omega)
              cases gb : blB (fl l q)
              · have gfin := hide (tr_no (l := l) (start := pos) (e := q + 1) (.inr gb) g1)
                have gC : Hid (Calls Tryd.prog 14 #[.int .u8 (fl l q)] (w.drewN mm) fun e w' => e = .returned (.bool false) ∧ w' = w.drewN mm) := by
                  have hx := zzBlank_any (fl l q) (w.drewN mm)
                  rw [gb] at hx
                  exact hx
                clear gb
                go_wp2_with fail
                refine gC.out.mono ?_
                rintro e w' ⟨rfl, rfl⟩
                go_wp2
                go_ret
                exact ⟨ret_int (by rw [HK.out, ← gt.out, gfin.out]; omega), mm, rfl⟩
              · have gfin := hide (tr_bl (l := l) (start := pos) (e := q) (by omega) gb)
                have gC : Hid (Calls Tryd.prog 14 #[.int .u8 (fl l q)] (w.drewN mm) fun e w' => e = .returned (.bool true) ∧ w' = w.drewN mm) := by
                  have hx := zzBlank_any (fl l q) (w.drewN mm)
                  rw [gb] at hx
                  exact hx
                clear gb
                go_wp2_with fail
                refine gC.out.mono ?_
                rintro e w' ⟨rfl, rfl⟩
                go_wp2
                go_roundw
                case rel => exact ⟨q, mm, by omega, by omega, by go_num, gfin.out.symm.trans gt.out, rfl⟩
                case measure => simp [intOf]
            · have he' : ((e : Int) ≤ pos) := by omega
              have gfin := hide (tr_no (l := l) (start := pos) (e := e) (.inl (by omega)) g1)
              go_wp2
              go_ret
              exact ⟨ret_int (by rw [HK.out, ← gt.out, gfin.out]), mm, rfl⟩
        · have hst := hide (st_ok Hb.out ho)
          have hrb := rn_bd hk
          have hC : Hid (Calls Tryd.prog 16 #[.slice (some ⟨b, off, none⟩) l.length cap, .int .i64 pos, .int .i64 k, .bool flow] (w.drewN m) fun e w' => e = .returned (.bool true) ∧ ∃ m', w' = (w.drewN m).drewN m') := by
            have hx := zzPlainOK_any (H.out.drewN m) cap pos k h1 hk hn flow
            rw [ho] at hx
            exact hx
          have hC2 : Hid (Calls Tryd.prog 14 #[.int .u8 (fl l k)] (w.drewN m) fun e w' => e = .returned (.bool false) ∧ w' = w.drewN m) := by
            have hx := zzBlank_any (fl l k) (w.drewN m)
            rw [Hb.out] at hx
            exact hx
          clear ho
          go_wp2_with fail
          refine hC2.out.mono ?_
          rintro e w' ⟨rfl, rfl⟩
          go_wp2_with fail
          refine hC.out.mono ?_
          rintro e w' ⟨rfl, m', rfl⟩
          go_wp2_with fail
          refine (zzDecode_rn (H.out.drewN (m + m')) cap k hk hn).mono ?_
          rintro e w' ⟨rfl, m2, rfl⟩
          go_wp2
          go_roundw
          case rel => exact ⟨k + (rn l k).2, m + m' + m2, by omega, by omega, by go_num, hst.out.symm.trans hs.out, by simp⟩
          case measure => simp [intOf]; omega
      · have hst := hide (st_bl (start := pos) (flow := flow) hb)
        have hC2 : Hid (Calls Tryd.prog 14 #[.int .u8 (fl l k)] (w.drewN m) fun e w' => e = .returned (.bool true) ∧ w' = w.drewN m) := by
          have hx := zzBlank_any (fl l k) (w.drewN m)
          rw [hb] at hx
          exact hx
        clear hb
        go_wp2_with fail
        refine hC2.out.mono ?_
        rintro e w' ⟨rfl, rfl⟩
        go_wp2
        go_roundw
        case rel => exact ⟨k + 1, m, by omega, by omega, by go_num, hst.out.symm.trans hs.out, rfl⟩
        case measure => simp [intOf]; omega
    · have hk' : (l.length : Int) ≤ k := by omega
      have HK : Hid (st l pos flow pos = k) := hs.out.symm.trans (st_out (by omega))
      clear hs
      go_wp2
      go_loopw [10] (fun v wr => ∃ e m : Nat, pos ≤ e ∧ e ≤ l.length ∧ v = .int .i64 e ∧ Hid (tr l pos e = tr l pos k) ∧ wr = w.drewN m) (fun v _ => (intOf v).toNat)
      case atStart => exact ⟨k, _, by omega, by omega, rfl, rfl, by first | rfl | (rw [World.drewN_drewN])⟩
      case round =>
        obtain ⟨e, mm, g1, g2, rfl, gt, rfl⟩ := hrel
        by_cases he : pos < e
        · obtain ⟨q, rfl⟩ : ∃ q, e = q + 1 := ⟨e - 1, by omega⟩
          have he' : (pos : Int) < (q : Int) + 1 := by omega
          have hq' : (q : Int) < l.length := by omega
          have hcq := H.out q (by omega)
          cases gb : blB (fl l q)
          · have gfin := hide (tr_no (l := l) (start := pos) (e := q + 1) (.inr gb) g1)
            have gC : Hid (Calls Tryd.prog 14 #[.int .u8 (fl l q)] (w.drewN mm) fun e w' => e = .returned (.bool false) ∧ w' = w.drewN mm) := by
              have hx := zzBlank_any (fl l q) (w.drewN mm)
              rw [gb] at hx
              exact hx
            clear gb
            go_wp2_with fail
            refine gC.out.mono ?_
            rintro e w' ⟨rfl, rfl⟩
            go_wp2
            go_ret
            exact ⟨ret_int (by rw [HK.out, ← gt.out, gfin.out]; omega), mm, rfl⟩
          · have gfin := hide (tr_bl (l := l) (start := pos) (e := q) (by omega) gb)
            have gC : Hid (Calls Tryd.prog 14 #[.int .u8 (fl l q)] (w.drewN mm) fun e w' => e = .returned (.bool true) ∧ w' = w.drewN mm) := by
              have hx := zzBlank_any (fl l q) (w.drewN mm)
              rw [gb] at hx
              exact hx
            clear gb
            go_wp2_with fail
            refine gC.out.mono ?_
            rintro e w' ⟨rfl, rfl⟩
            go_wp2
            go_roundw
            case rel => exact ⟨q, mm, by omega, by omega, by go_num, gfin.out.symm.trans gt.out, rfl⟩
            case measure => simp [intOf]
        · have he' : ((e : Int) ≤ pos) := by omega
          have gfin := hide (tr_no (l := l) (start := pos) (e := e) (.inl (by omega)) g1)
          go_wp2
          go_ret
          exact ⟨ret_int (by rw [HK.out, ← gt.out, gfin.out]), mm, rfl⟩

set_option maxRecDepth 100000 in
set_option maxHeartbeats 400000 in
theorem zzPlainModel_nil (w : World) (flow : Bool) :
    Calls Tryd.prog 6 #[.slice none 0 0, .int .i64 0, .bool flow] w fun e w' => e = .returned (.int .i64 0) ∧ w' = w := by
  go_enter Tryd.func6, Tryd.ntmps6
  go_wp2
  go_loop [7] (fun v => v = .int .i64 0) (fun _ => 0)
  case atStart => rfl
  case round =>
    subst hrel
    go_wp2
    go_loop [10] (fun v => v = .int .i64 0) (fun _ => 0)
    case atStart => rfl
    case round =>
      subst hrel
      go_wp2
      go_ret
      exact ⟨rfl, rfl⟩
end Go.Proofs.Qxb6615043aDoor
