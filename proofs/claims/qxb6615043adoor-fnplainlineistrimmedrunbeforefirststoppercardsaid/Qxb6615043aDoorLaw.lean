import Derived.Test.Qxb6615043aDoorWalksI
namespace Go.Proofs.Qxb6615043aDoor
open Go.RowKit

theorem st_bd {l : List UInt8} {start : Nat} {flow : Bool} (i : Nat) (hi : i ≤ l.length) : i ≤ st l start flow i ∧ st l start flow i ≤ l.length := by
  have key : ∀ m i, i ≤ l.length → i ≤ stF l start flow m i ∧ stF l start flow m i ≤ l.length := by
    intro m
    induction m with
    | zero => intro i hi; exact ⟨Nat.le_refl _, hi⟩
    | succ m ih =>
      intro i hi
      simp only [stF]
      split
      · next hb => have := ih (i + 1) (bl_lt hb); omega
      · split
        · next ho => have h1 := rn_bd (pc_lt ho); have := ih (i + (rn l i).2) h1.2; omega
        · exact ⟨Nat.le_refl _, hi⟩
  exact key _ i hi

set_option maxRecDepth 100000 in
set_option maxHeartbeats 400000 in
theorem zzPlainLine_any {w : World} {pb : Nat} {ad : Addr} {l : List UInt8} {pos : Nat} (h : PA w pb (some ad) l pos) (hp : pos ≤ l.length) (c : Int) :
    Calls Tryd.prog 9 #[.pointer (some ⟨pb, 0, none⟩), .int .i64 c] w fun e w' => (∃ ad', e = .returned (.slice (some ad') (tr l pos (st l pos (flowB c) pos) - pos) (l.length - pos)) ∧ (l.length - pos ≠ 0 → ad' = ad.add pos)) ∧ PA w' pb (some ad) l (tr l pos (st l pos (flowB c) pos)) ∧ Below pb w w' := by
  have H := hide h
  clear h
  go_enter Tryd.func9, Tryd.ntmps9
  go_wp2_with fail
  refine (plainLine_any H.out hp c).mono ?_
  rintro e w' ⟨⟨ad', rfl, ha⟩, hP, hB⟩
  have Ha := hide ha
  have HP := hide hP
  have HB := hide hB
  clear ha hP hB
  go_wp2
  go_ret
  exact ⟨⟨ad', rfl, Ha.out⟩, HP.out, HB.out⟩

set_option maxRecDepth 100000 in
set_option maxHeartbeats 400000 in
theorem zzPlainLine_nil {w : World} {pb : Nat} (h : PA w pb none [] 0) (c : Int) :
    Calls Tryd.prog 9 #[.pointer (some ⟨pb, 0, none⟩), .int .i64 c] w fun e w' => e = .returned (.slice none 0 0) ∧ PA w' pb none [] 0 ∧ Below pb w w' := by
  have H := hide h
  clear h
  go_enter Tryd.func9, Tryd.ntmps9
  go_wp2_with fail
  refine (plainLine_nil H.out c).mono ?_
  rintro e w' ⟨rfl, hP, hB⟩
  have HP := hide hP
  have HB := hide hB
  clear hP hB
  go_wp2
  go_ret
  exact ⟨rfl, HP.out, HB.out⟩

/-- The parser as ZZNewParser lays it. -/
theorem PA.made {w : World} {a : Option Addr} {l : List UInt8} {pos : Nat} (h2 : 2 ≤ w.heap.size) (hl : l.length ≤ 1048576) (hT : Lib.Utf8Tabs 0 1 w)
    (hby : l.length ≠ 0 → ∃ cb, a = some ⟨cb, 0, none⟩ ∧ cb < w.heap.size ∧ ∀ j, j < l.length → w.cell? ⟨cb, j, none⟩ = some (.int .u8 (fl l j))) :
    PA (w.alloc (.cells #[.slice a l.length l.length, .slice none 0 0, .int .i64 pos, .int .i64 0, .map none, .map none] 41)) w.heap.size a l pos where
  src := by go_simp
  pos := by go_simp
  frz := by go_simp
  siz := by go_simp
  big := h2
  byt := fun hl => by
    obtain ⟨cb, e, hlt, hc⟩ := hby hl
    exact ⟨cb, e, hlt, fun j hj => by rw [World.cell?_alloc_lt _ _ _ hlt]; exact hc j hj⟩
  tab := by
    refine ⟨fun c hc => ?_, fun i hi => ⟨?_, ?_⟩⟩
    · rw [World.cell?_alloc_lt _ _ _ (by show 0 < _; omega)]; exact hT.1 c hc
    · rw [World.cell?_alloc_lt _ _ _ (by show 1 < _; omega)]; exact (hT.2 i hi).1
    · rw [World.cell?_alloc_lt _ _ _ (by show 1 < _; omega)]; exact (hT.2 i hi).2
  len := hl

theorem tabs_later {w w' : World} (h2 : 2 ≤ w.heap.size) (hT : Lib.Utf8Tabs 0 1 w) (hb : Below w.heap.size w w') : Lib.Utf8Tabs 0 1 w' := by
  refine ⟨fun c hc => ?_, fun i hi => ⟨?_, ?_⟩⟩
  · rw [hb.cell (p := ⟨0, c, none⟩) (by show 0 < _; omega)]; exact hT.1 c hc
  · rw [hb.cell (p := ⟨1, 2 * i, none⟩) (by show 1 < _; omega)]; exact (hT.2 i hi).1
  · rw [hb.cell (p := ⟨1, 2 * i + 1, none⟩) (by show 1 < _; omega)]; exact (hT.2 i hi).2

theorem zzEq_gen {w : World} {a a' : Option Addr} {n cap cap' : Nat} {f : Nat → Nat} (hn : n ≤ 1048576)
    (h : n ≠ 0 → ∃ b off b' off', a = some ⟨b, off, none⟩ ∧ a' = some ⟨b', off', none⟩ ∧ (∀ j, j < n → w.cell? ⟨b, off + j, none⟩ = some (.int .u8 (f j))) ∧ (∀ j, j < n → w.cell? ⟨b', off' + j, none⟩ = some (.int .u8 (f j)))) :
    Calls Tryd.prog 10 #[.slice a n cap, .slice a' n cap'] w fun e w' => e = .returned (.bool true) ∧ ∃ m, w' = w.drewN m := by
  by_cases h0 : n = 0
  · subst h0
    exact (zzEq_empty a a' cap cap' w).mono fun e w' ⟨he, hw⟩ => ⟨he, 0, hw⟩
  · obtain ⟨b, off, b', off', rfl, rfl, h1, h2⟩ := h h0
    exact zzEq_any h1 h2 hn

set_option maxRecDepth 100000 in
set_option maxHeartbeats 2000000 in
/-- The law, a text that is not nil. -/
theorem law_any {w : World} {b off : Nat} {l : List UInt8} (h : At w b off l) (hb : b < w.heap.size) (cap : Nat) (hcap : l.length ≤ cap) (h2 : 2 ≤ w.heap.size) (hT : Lib.Utf8Tabs 0 1 w) (p c : Int) :
    Calls Tryd.prog 3 #[.slice (some ⟨b, off, none⟩) l.length cap, .int .i64 p, .int .i64 c] w fun e w' => e = .returned (.bool true) ∧ Below w.heap.size w w' := by
  have H := hide h
  have HT := hide hT
  clear h hT
  by_cases hn : l.length ≤ 1048576
  · have hn' : (l.length : Int) ≤ 1048576 := by omega
    by_cases hp0 : p < 0
    · go_enter Tryd.func3, Tryd.ntmps3
      go_wp2_with (go_at_call 5; refine (zzBytes_any _ _ _ _ _ hn _).mono ?_; rintro e w' ⟨rfl, rfl⟩)
      go_ret
      exact ⟨rfl, Below.refl _ _⟩
    by_cases hp1 : (l.length : Int) < p
    · go_enter Tryd.func3, Tryd.ntmps3
      go_wp2_with (go_at_call 5; refine (zzBytes_any _ _ _ _ _ hn _).mono ?_; rintro e w' ⟨rfl, rfl⟩)
      go_ret
      exact ⟨rfl, Below.refl _ _⟩
    obtain ⟨pos, rfl⟩ := Int.eq_ofNat_of_zero_le (show 0 ≤ p by omega)
    have hp : pos ≤ l.length := by omega
    have hs := st_bd (l := l) (start := pos) (flow := flowB c) pos hp
    have ht := tr_bd l pos (st l pos (flowB c) pos) hs.1
    obtain ⟨E, hE⟩ : ∃ E, tr l pos (st l pos (flowB c) pos) = E := ⟨_, rfl⟩
    rw [hE] at ht
    have HE := hide hE
    have hE1 : pos ≤ E := ht.1
    have hE2 : E ≤ l.length := by omega
    clear hE ht hs
    have hcs : ((c == 4) = true ∧ flowB c = true) ∨ ((c == 4) = false ∧ (c == 5) = true ∧ flowB c = true) ∨ ((c == 4) = false ∧ (c == 5) = false ∧ flowB c = false) := by
      by_cases h4 : c = 4
      · exact .inl ⟨by simp [h4], by simp [flowB, h4]⟩
      · by_cases h5 : c = 5
        · exact .inr (.inl ⟨by simp [h4], by simp [h5], by simp [flowB, h5]⟩)
        · exact .inr (.inr ⟨by simp [h4], by simp [h5], by simp [flowB, h4, h5]⟩)
    have key : ∀ fb : Bool, flowB c = fb → Calls Tryd.prog 6 #[.slice (some ⟨b, off, none⟩) l.length cap, .int .i64 pos, .bool fb] w fun e w' => e = .returned (.int .i64 E) ∧ ∃ m, w' = w.drewN m := by
      rintro fb rfl
      have hx := zzPlainModel_any H.out cap pos hp hn (flowB c)
      rw [HE.out] at hx
      exact hx
    have K := hide key
    clear key
    rcases hcs with ⟨h4, hf⟩ | ⟨h4, h5, hf⟩ | ⟨h4, h5, hf⟩
    all_goals
      have Hf := hide hf
      clear hf
      go_enter Tryd.func3, Tryd.ntmps3
      go_wp2_with (go_at_call 5; refine (zzBytes_any _ _ _ _ _ hn _).mono ?_; rintro e w' ⟨rfl, hw⟩; obtain rfl := hw.symm; clear hw)
      refine (K.out _ Hf.out).mono ?_
      rintro e w1 ⟨rfl, m, rfl⟩
      go_wp2_with fail
      have hx := zzClone_any (H.out.drewN m) hb cap hn
      simp only [World.heap_drewN] at hx
      refine hx.mono ?_
      rintro e w2 ⟨rfl, hA2, hs2, hB2⟩
      have HA2 := hide hA2
      have HB2 : Hid (Below w.heap.size w w2) := (below_drewN (Below.refl _ _) m).trans hB2
      clear hx hA2 hB2
      have hPA := hide (PA.made (w := w2) (a := some ⟨w.heap.size, 0, none⟩) (l := l) (pos := pos) (by omega) hn (tabs_later h2 HT.out HB2.out) (fun _ => ⟨w.heap.size, rfl, hs2, fun j hj => by have := HA2.out j hj; rwa [Nat.zero_add] at this⟩))
      go_wp2_with fail
      refine (newParser_any _ (.inr ⟨_, _, _, rfl⟩) _ _).mono ?_
      rintro e w3 ⟨rfl, rfl⟩
      go_wp2_with fail
      have hx := zzPlainLine_any hPA.out hp c
      rw [HE.out] at hx
      refine hx.mono ?_
      rintro e w4 ⟨⟨ad', rfl, ha⟩, hP4, hB4⟩
      have Ha := hide ha
      have HP4 := hide hP4
      have HB4 := hide hB4
      clear hx ha hP4 hB4
      have HBw : Hid (Below w.heap.size w w4) := (HB2.out.alloc (Nat.le_of_lt hs2) _).trans (HB4.out.mono (Nat.le_of_lt hs2))
      go_wp2_with fail
      all_goals
        refine (zzEq_gen (f := fun j => fl l (pos + j)) (by omega) (fun h0 => ?_)).mono ?_
        · first
          | (exfalso; omega)
          | (have ea := Ha.out (by omega)
             refine ⟨w.heap.size, pos, b, off + pos, by rw [ea]; simp [Addr.add]; exact fun h => h.symm, by simp, fun j hj => ?_, fun j hj => ?_⟩
             · obtain ⟨cb, e1, _, hc⟩ := HP4.out.byt (by omega)
               cases e1
               exact hc (pos + j) (by omega)
             · rw [HBw.out.cell (p := ⟨b, off + pos + j, none⟩) hb]
               rw [Nat.add_assoc]; exact H.out (pos + j) (by omega))
        · rintro e w5 ⟨rfl, m5, rfl⟩
          have hP5 := hide (HP4.out.later (below_drewN (Below.refl _ _) m5))
          go_wp2_with fail
          refine (zzPos_any hP5.out).mono ?_
          rintro e w6 ⟨rfl, hw⟩
          obtain rfl := hw.symm
          clear hw
          go_wp2
          go_ret
          exact ⟨rfl, below_drewN HBw.out m5⟩
  · have hn' : 1048576 < (l.length : Int) := by omega
    go_enter Tryd.func3, Tryd.ntmps3
    go_wp2_with (go_at_call 5; refine (zzBytes_no _ _ _ _ _ hn _).mono ?_; rintro e w' ⟨rfl, rfl⟩)
    go_ret
    exact ⟨rfl, Below.refl _ _⟩

end Go.Proofs.Qxb6615043aDoor
