import Derived.Test.Qxb6615582aGreatFmtLw1
import Derived.Test.Qxb6615582aGreatFmtTl0
namespace Go.Proofs.Qxb6615582aGreatFmt
open Go.RowKit

set_option maxRecDepth 100000 in
set_option maxHeartbeats 2000000 in
/-- zzCount: some number. -/
theorem count_c {w : World} {n : Nat} {ao : Option Addr} {cc' : Nat} {ss : List ByteArray} (hs : Sv w ao ss) (hn : n ≤ 1048576) (hm : ss.length ≤ 1048576) (hz : ∀ s ∈ ss, s.size ≤ 1048576) :
    Calls Tryz.prog 8 #[.int .i64 n, .slice ao ss.length cc'] w fun e w' => w' = w ∧ ∃ c : Int, e = .returned (.int .i64 c) := by
  have Hs := hide hs
  have Hz := hide hz
  clear hs hz
  obtain ⟨m, hmm⟩ : ∃ m, m = ss.length := ⟨_, rfl⟩
  rw [← hmm] at hm ⊢
  have Hm := hide hmm
  clear hmm
  have hn' : (n : Int) ≤ 1048576 := by omega
  have hm' : (m : Int) ≤ 1048576 := by omega
  have hn2 : ¬ (1048576 : Int) < n := by omega
  go_enter Tryz.func8, Tryz.ntmps8
  by_cases h1 : 65536 < m
  · have h1' : (65536 : Int) < m := by omega
    go_wp2
    go_ret
    exact ⟨rfl, _, rfl⟩
  · have h1' : ¬ (65536 : Int) < m := by omega
    go_wp2_with fail
    go_loop [0, 5] (fun v0 v5 => ∃ (k t : Nat), v5 = .int .i64 k ∧ v0 = .int .i64 t ∧ k ≤ m ∧ t ≤ 4194304) (fun _ v5 => m - (intOf v5).toNat)
    case atStart => exact ⟨0, n + 16 * m, rfl, by go_num, Nat.zero_le _, by omega⟩
    case round =>
      obtain ⟨k, t, rfl, rfl, hk, ht⟩ := hrel
      by_cases h2 : 1048576 < t
      · have h2' : (1048576 : Int) < t := by omega
        by_cases hkm : k < m
        · have hkm' : (k : Int) < m := by omega
          go_wp2
          go_ret
          exact ⟨rfl, _, rfl⟩
        · have hkm' : ¬ (k : Int) < m := by omega
          go_wp2
          go_ret
          exact ⟨rfl, _, rfl⟩
      · have h2' : (t : Int) ≤ 1048576 := by omega
        by_cases hkm : k < m
        · have hkm' : (k : Int) < m := by omega
          have hkl : k < ss.length := by rw [← Hm.out]; exact hkm
          obtain ⟨b, o, hao, hc⟩ := Hs.out k hkl
          obtain ⟨s, hss⟩ : ∃ s, s = ss[k] := ⟨_, rfl⟩
          rw [← hss] at hc
          subst hao
          have hsz : (s.size : Int) ≤ 1048576 := by
            have := Hz.out s (by rw [hss]; exact List.getElem_mem hkl)
            omega
          clear hss
          go_wp2
          go_round
          case rel => exact ⟨k + 1, t + s.size, by go_num, by go_num, by omega, by omega⟩
          case measure => simp [intOf]; omega
        · have hkm' : ¬ (k : Int) < m := by omega
          have h3' : ¬ (1048576 : Int) < t := by omega
          go_wp2
          go_ret
          exact ⟨rfl, _, rfl⟩

theorem nn22 (a : Addr) (n c : Nat) (w : World) : Sem.run Tryz.prog (binOp .eql 22 (.slice (some a) n c) (.slice none 0 0)) w = .ok (.bool false) w := by
  have h : ∀ d : Nat, (Op.equalIn (d + 1) 22 (.slice (some a) n c) (.slice none 0 0)).run Tryz.prog w = .ok false w := fun d => by
    simp [Op.equalIn, run_underlying Tryz.underlying22]
  simp only [binOp]
  simp [Op.equal, Op.maxDepth, h 9999]
theorem nn23 (a : Addr) (n c : Nat) (w : World) : Sem.run Tryz.prog (binOp .eql 23 (.slice (some a) n c) (.slice none 0 0)) w = .ok (.bool false) w := by
  have h : ∀ d : Nat, (Op.equalIn (d + 1) 23 (.slice (some a) n c) (.slice none 0 0)).run Tryz.prog w = .ok false w := fun d => by
    simp [Op.equalIn, run_underlying Tryz.underlying23]
  simp only [binOp]
  simp [Op.equal, Op.maxDepth, h 9999]
/-- A row being filled. -/
structure FV (w : World) (B : Nat) (t : TypeId) (vs : List Value) (k : Nat) : Prop where
  ex : ∃ cur : Array Value, Blk w B t cur ∧ cur.size = vs.length ∧ ∀ j, j < k → cur[j]? = vs[j]?
theorem FV.cell {w : World} {B : Nat} {t : TypeId} {vs : List Value} {k j : Nat} (h : FV w B t vs k) (hj : j < vs.length) : ∃ v, w.cell? ⟨B, j, none⟩ = some v := by
  obtain ⟨cur, h1, h2, _⟩ := h.ex
  exact ⟨cur[j], h1.cell (Array.getElem?_eq_getElem (by omega))⟩
theorem FV.free {w : World} {B : Nat} {t : TypeId} {vs : List Value} {k : Nat} (h : FV w B t vs k) (j : Nat) : w.frozen? ⟨B, j, none⟩ = false := by
  obtain ⟨cur, h1, _⟩ := h.ex
  exact h1.free j
theorem FV.store {w : World} {B : Nat} {t : TypeId} {vs : List Value} {k : Nat} (h : FV w B t vs k) (hk : k < vs.length) {v : Value} (hv : vs[k]? = some v) (wx : World) (e1 : wx.heap = (w.setCell ⟨B, k, none⟩ v).heap) : FV wx B t vs (k + 1) := by
  obtain ⟨cur, h1, h2, h3⟩ := h.ex
  refine ⟨cur.setIfInBounds k v, (h1.store k _).heap e1, by rw [Array.size_setIfInBounds]; exact h2, fun j hjk => ?_⟩
  by_cases hjk2 : j = k
  · subst hjk2
    rw [Array.getElem?_setIfInBounds_self_of_lt (by omega), hv]
  · rw [Array.getElem?_setIfInBounds_ne (fun e => hjk2 e.symm)]
    exact h3 j (by omega)
theorem FV.full {w : World} {B : Nat} {t : TypeId} {vs : List Value} (h : FV w B t vs vs.length) : Blk w B t vs.toArray := by
  obtain ⟨cur, h1, h2, h3⟩ := h.ex
  have : cur = vs.toArray := by
    apply Array.ext
    · simp [h2]
    · intro i hi1 hi2
      have := h3 i (by omega)
      rw [Array.getElem?_eq_getElem hi1] at this
      simp at hi2
      rw [List.getElem?_eq_getElem hi2] at this
      simpa using Option.some.inj this
  rw [← this]; exact h1

set_option maxRecDepth 100000 in
set_option maxHeartbeats 2000000 in
/-- zzCloneBytes of a slice that is not nil. -/
theorem cloneB_c {w : World} {b o cap : Nat} {D : Bs} (hc : ∀ j (h : j < D.length), w.cell? ⟨b, o + j, none⟩ = some (.int .u8 D[j].toNat)) (hb : D ≠ [] → b < w.heap.size) (hl : D.length ≤ 1048576) :
    Calls Tryz.prog 9 #[.slice (some ⟨b, o, none⟩) D.length cap] w fun e w' => e = .returned (.slice (some ⟨w.heap.size, 0, none⟩) D.length D.length) ∧ Blk w' w.heap.size 5 (bcs D).toArray ∧ Kp (fun _ => False) w w' := by
  have Hc := hide hc
  have Hb := hide hb
  obtain ⟨i5, hi, hz0, hz1, hz2⟩ := info_parts Tryz.info5
  obtain ⟨m, hm⟩ : ∃ m, m = D.length := ⟨_, rfl⟩
  rw [← hm] at hl ⊢
  obtain ⟨wm, hmk, hmo, hmg⟩ := run_make_full (P := Tryz.prog) w 0 22 5 i5 _ 1 Tryz.underlying22 hi hz0 hz1 .i64 .i64 m (by rw [hz2]; omega) (by unfold maxLen; omega) (Nat.zero_le _)
  have hkm : Kp (fun _ => False) w wm := Kp.grown hmg (fun k e => by cases e)
  have hfl : Hid (FV wm w.heap.size 5 (bcs D) 0) := by
    rcases hmo.2 with ⟨e, _⟩ | ⟨g, cap, cur, e, _, hg, _, _, hcs, _⟩
    · cases e
    · cases e
      exact ⟨cur, hg, by rw [bcs_length]; omega, fun j hj => absurd hj (Nat.not_lt_zero _)⟩
  have Hm := hide hm
  have Hkm := hide hkm
  have hl' : (m : Int) ≤ 1048576 := by omega
  clear hc hb hmo hmg hkm hm
  have hnn := nn22 ⟨b, o, none⟩ m cap w
  go_enter Tryz.func9, Tryz.ntmps9
  go_wp2_with fail
  go_loopg [4] m (fun gk s4 wr => ∃ k : Nat, s4 = .int .i64 k ∧ k ≤ m ∧ gk = m - k ∧ Hid (FV wr w.heap.size 5 (bcs D) k ∧ Kp (fun j => j = w.heap.size) wm wr))
  case atStart => exact ⟨0, rfl, Nat.zero_le _, rfl, hfl.out, Kp.refl _ _⟩
  case round =>
    obtain ⟨k, rfl, hk, rfl, hrr⟩ := hrel
    have hkw : Hid (Kp (fun j => j = w.heap.size) w wr) := (Hkm.out.mono (fun _ _ e => e.elim)).trans (hrr.out.2.mono (fun _ _ e => .inl e))
    by_cases hkm : k < m
    · have hkm' : (k : Int) < m := by omega
      have hkD : k < D.length := by rw [← Hm.out]; exact hkm
      have hbl := Hb.out (by intro e; rw [e] at hkD; exact absurd hkD (Nat.not_lt_zero _))
      obtain ⟨c, hcc⟩ : ∃ c, c = D[k] := ⟨_, rfl⟩
      have hgc : wr.cell? ⟨b, o + k, none⟩ = some (.int .u8 c.toNat) := by
        rw [hkw.out.cell (p := ⟨b, o + k, none⟩) hbl (fun e => by simp at e; omega), Hc.out k hkD, hcc]
      obtain ⟨v, hv⟩ := hrr.out.1.cell (j := k) (by rw [bcs_length]; exact hkD)
      have hvf := hrr.out.1.free k
      have Hcc := hide hcc
      have HkD := hide hkD
      clear hcc
      go_wp2
      go_roundg (m - (k + 1))
      case measure => omega
      case rel =>
        refine ⟨k + 1, by go_num, by omega, rfl, ?_, ?_⟩
        · refine hrr.out.1.store (by rw [bcs_length]; exact hkD) (v := .int .u8 c.toNat) ?_ _ rfl
          rw [bcs_at D hkD, Hcc.out]
        · exact hrr.out.2.setCell (p := ⟨w.heap.size, k, none⟩) (.inl rfl) _
    · have hkm' : ¬ (k : Int) < m := by omega
      obtain rfl : k = m := by omega
      go_wp2
      go_ret
      refine ⟨rfl, ?_, hkw.out.mono (fun k hk e => by omega)⟩
      have h5 := hrr.out.1
      rw [Hm.out, ← bcs_length D] at h5
      exact h5.full
end Go.Proofs.Qxb6615582aGreatFmt
