import Derived.Test.Qxb6606282aDoorWalksB
import Derived.Laws.BytesArg
import Derived.Lib.ConvBytes
import Derived.Deep.Light
namespace Go.Proofs.Qxb6606282aDoor
open Go.RowKit

/-- The state of the carrying loop: the new row N holds digits. -/
structure Row (wr : World) (N sz : Nat) (g : Nat → Nat) : Prop where
  dg : ∀ j, j < sz → 48 ≤ g j ∧ g j ≤ 57
  cell : ∀ j, j < sz → wr.cell? ⟨N, j, none⟩ = some (.int .u8 (g j))
  frz : ∀ j, j < sz → wr.frozen? ⟨N, j, none⟩ = false
def PR (N sz : Nat) (k0 : Int) (g0 : Nat → Nat) (W : World) (c kk : Value) (wr : World) : Prop :=
  ∃ (cv kv : Int) (g : Nat → Nat), c = .int .i64 cv ∧ kk = .int .i64 kv ∧ -1 ≤ kv ∧ kv < sz ∧ -4294967296 ≤ cv ∧ cv ≤ 4294967296 ∧ Row wr N sz g ∧ Below N W wr ∧ N < wr.heap.size ∧ (k0 = 0 → cv = 0 ∧ ∀ j, j < sz → g j = g0 j)

theorem w64 {x : Int} (h1 : -9223372036854775808 ≤ x) (h2 : x ≤ 9223372036854775807) : wrap64 x = x := by
  unfold wrap64; omega
theorem tmod10 (X : Int) : -9 ≤ X.tmod 10 ∧ X.tmod 10 ≤ 9 := by rw [tmod_eq_if]; split <;> omega
theorem tdiv10 (X : Int) (h1 : -5000000000 ≤ X) (h2 : X ≤ 5000000000) : -4294967296 ≤ X.tdiv 10 ∧ X.tdiv 10 ≤ 4294967296 := by rw [tdiv_eq_if]; split <;> omega
theorem tmodp (X : Int) (h : 0 ≤ X) : 0 ≤ X.tmod 10 ∧ X.tmod 10 ≤ 9 := by rw [tmod_eq_if]; split <;> omega
/-- One step's arithmetic: the digit and the carry. -/
theorem carry_step (X : Int) (h1 : -4294967396 ≤ X) (h2 : X ≤ 4294967396) :
    ∃ D C : Int, 0 ≤ D ∧ D ≤ 9 ∧ -4294967296 ≤ C ∧ C ≤ 4294967296 ∧ wrap64 (48 + (wrap64 (X.tmod 10 + 10)).tmod 10) % 256 = 48 + D ∧ wrap64 ((wrap64 (X - (wrap64 (X.tmod 10 + 10)).tmod 10)).tdiv 10) = C := by
  have a1 := tmod10 X
  rw [w64 (x := X.tmod 10 + 10) (by omega) (by omega)]
  have a2 := tmodp (X.tmod 10 + 10) (by omega)
  generalize (X.tmod 10 + 10).tmod 10 = D at a2
  rw [w64 (x := X - D) (by omega) (by omega)]
  have a3 := tdiv10 (X - D) (by omega) (by omega)
  generalize (X - D).tdiv 10 = C at a3
  rw [w64 (x := C) (by omega) (by omega), w64 (x := 48 + D) (by omega) (by omega)]
  exact ⟨D, C, a2.1, a2.2, a3.1, a3.2, by omega, rfl⟩

theorem PR.start {N sz : Nat} {k0 : Int} {W wr : World} {g0 : Nat → Nat} (hk1 : -4294967296 ≤ k0) (hk2 : k0 ≤ 4294967296) (hr : Row wr N sz g0) (hb : Below N W wr) (hN : N < wr.heap.size) :
    PR N sz k0 g0 W (.int .i64 k0) (.int .i64 ((sz : Int) - 1)) wr :=
  ⟨k0, (sz : Int) - 1, g0, rfl, rfl, by omega, by omega, hk1, hk2, hr, hb, hN, fun h => ⟨h, fun _ _ => rfl⟩⟩
theorem PR.step {N sz q : Nat} {k0 cv : Int} {W wr : World} {g g0 : Nat → Nat} (hq : q < sz) (h3 : -4294967296 ≤ cv) (h4 : cv ≤ 4294967296) (hcv : cv ≠ 0) (hr : Row wr N sz g) (hb : Below N W wr) (hN : N < wr.heap.size) (h0 : k0 = 0 → cv = 0 ∧ ∀ j, j < sz → g j = g0 j) :
    PR N sz k0 g0 W (.int .i64 (wrap64 ((wrap64 ((g q : Int) - 48 + cv - (wrap64 (((g q : Int) - 48 + cv).tmod 10 + 10)).tmod 10)).tdiv 10))) (.int .i64 ((q : Int) - 1))
      (wr.setCell ⟨N, q, none⟩ (.int .u8 (wrap64 (48 + (wrap64 (((g q : Int) - 48 + cv).tmod 10 + 10)).tmod 10) % 256))) := by
  have gd := hr.dg q hq
  obtain ⟨D, C, d1, d2, c1, c2, e1, e2⟩ := carry_step ((g q : Int) - 48 + cv) (by omega) (by omega)
  rw [e1, e2]
  obtain ⟨dn, rfl⟩ := Int.eq_ofNat_of_zero_le d1
  refine ⟨C, (q : Int) - 1, fun j => if j = q then 48 + dn else g j, rfl, rfl, by omega, by omega, c1, c2, ⟨fun j hj => ?_, fun j hj => ?_, fun j hj => ?_⟩, hb.setCell (Nat.le_refl _) _, by rw [World.size_setCell]; exact hN, fun h => absurd (h0 h).1 hcv⟩
  · split
    · omega
    · exact hr.dg j hj
  · by_cases e : j = q
    · rw [if_pos e, e]
      rw [World.cell?_setCell_same _ _ _ (hr.cell q hq)]
      congr 2
    · rw [if_neg e, World.cell?_setCell_other _ _ _ _ (fun h => e (by injection h with _ h2 _; exact h2.symm))]
      exact hr.cell j hj
  · rw [World.frozen?_setCell]; exact hr.frz j hj

theorem fz_bytes (w : World) (s : ByteArray) (j : Nat) (hj : j < s.size) : (Lib.bytesWorld w 5 s).frozen? ⟨w.heap.size, j, none⟩ = false := by
  have h := Lib.bytesWorld_at_new w 5 s
  have hz : s.size ≤ (Lib.bytesCells w 5 s).size := by
    unfold Lib.bytesCells
    simp
  unfold World.frozen?
  rw [h]
  simp
  omega
theorem row_start (w : World) (d : ByteArray) (hd : Dg d.data.toList) : Row (Lib.bytesWorld w 5 d) w.heap.size d.size (fun j => (d.data.toList.getD j 0).toNat) := by
  refine ⟨fun j hj => ?_, fun j hj => Lib.bytesWorld_cell w 5 d j hj, fun j hj => fz_bytes w d j hj⟩
  have hj' : j < d.data.toList.length := by rw [len_data]; exact hj
  have : d.data.toList.getD j 0 ∈ d.data.toList := by
    rw [List.getD, List.getElem?_eq_getElem hj']; exact List.getElem_mem hj'
  have := dg_ne (hd _ this)
  exact ⟨this.2.2.2.2.2.2.1, this.2.2.2.2.2.2.2⟩

/-- the row's text -/
def rowText (sz : Nat) (g : Nat → Nat) : List Int := (List.range sz).map fun j => (g j : Int)
theorem rowText_Dg {sz : Nat} {g : Nat → Nat} (h : ∀ j, j < sz → 48 ≤ g j ∧ g j ≤ 57) : Dg (strOfNums (rowText sz g)).data.toList := by
  rw [strOfNums_data]
  intro c hc
  unfold rowText at hc
  simp only [List.map_map, List.mem_map, List.mem_range] at hc
  obtain ⟨j, hj, rfl⟩ := hc
  have := h j hj
  simp only [dgB, decide_eq_true_eq, Function.comp, UInt8.toNat_ofNat', Int.toNat_natCast]
  omega
theorem rowText_same {d : ByteArray} {g : Nat → Nat} (h : ∀ j, j < d.size → g j = (d.data.toList.getD j 0).toNat) : (strOfNums (rowText d.size g)).data.toList = d.data.toList := by
  rw [strOfNums_data]
  apply List.ext_getElem
  · simp [rowText]
  · intro j h1 h2
    have hj : j < d.size := by rw [← len_data]; exact h2
    simp only [rowText, List.map_map, List.getElem_map, List.getElem_range, Function.comp, Int.toNat_natCast]
    rw [h j hj, List.getD, List.getElem?_eq_getElem h2]
    simp

theorem out_plain {n : Bool} {d t : ByteArray} {k : Int} {g : Nat → Nat} (hc : CI n d.data.toList) (hg : ∀ j, j < d.size → 48 ≤ g j ∧ g j ≤ 57) (h0 : k = 0 → ∀ j, j < d.size → g j = (d.data.toList.getD j 0).toNat) (ht : t.data.toList = tl (strOfNums (rowText d.size g)).data.toList) : PlusOut n d k n t := by
  refine ⟨by rw [ht]; exact Dg_sub (rowText_Dg hg) (tl_mem _), by rw [ht, tl_tl], ?_, fun hk => ?_⟩
  · have := tl_len (strOfNums (rowText d.size g)).data.toList
    rw [← ht, len_data, len_data, strOfNums_size] at this
    simp [rowText] at this
    omega
  · rw [ht, rowText_same (h0 hk), hc.hd]
theorem out_carry {n : Bool} {d t u : ByteArray} {k cv : Int} {g : Nat → Nat} (hg : ∀ j, j < d.size → 48 ≤ g j ∧ g j ≤ 57) (hk : k ≠ 0) (hcv : 0 < cv) (hcv2 : cv ≤ 4294967296) (hu : u.data.toList = Lib.itoa cv) (ht : t.data.toList = tl (u ++ strOfNums (rowText d.size g)).data.toList) : PlusOut n d k n t := by
  have hud : Dg u.data.toList := by
    rw [hu]; unfold Lib.itoa; rw [if_neg (by omega)]; exact dec_Dg _
  refine ⟨by rw [ht, app_data]; exact Dg_sub (Dg_app hud (rowText_Dg hg)) (tl_mem _), by rw [ht, tl_tl], ?_, fun h => absurd h hk⟩
  have h1 := tl_len (u ++ strOfNums (rowText d.size g)).data.toList
  have h2 := Lib.itoa_length_le cv (by omega) (by omega)
  rw [← ht, app_data, List.length_append, len_data, hu] at h1
  have h3 : (strOfNums (rowText d.size g)).data.toList.length = d.size := by rw [len_data, strOfNums_size]; simp [rowText]
  omega

set_option maxRecDepth 100000 in
set_option maxHeartbeats 2000000 in
theorem plus_big {w0 w : World} (E : Env w0) (hb : Below w0.heap.size w0 w) {n : Bool} {d : ByteArray} (hc : CI n d.data.toList) (hl : 18 < d.size) (hl2 : d.size ≤ 4294967296) {k : Int} (hk1 : -4294967296 ≤ k) (hk2 : k ≤ 4294967296) :
    Calls Tryd.prog 26 #[.agg #[.bool n, .string d], .int .i64 k] w fun e w' => ∃ (n' : Bool) (t : ByteArray), e = .returned (.agg #[.bool n', .string t]) ∧ PlusOut n d k n' t ∧ Below w.heap.size w w' := by
  have hl' : ¬ ((d.size : Int) ≤ 18) := by omega
  have hcv := fun w => Lib.run_convert_string_bytes (P := Tryd.prog) w 9 26 5 d Tryd.underlying9 Tryd.underlying26 Tryd.underlying5
  have HC := hide hc
  have Hb := hide hb
  clear hc hb
  cases n
  · go_enter Tryd.func26, Tryd.ntmps26
    go_wp2
    go_loopw [8, 9] (fun c kk wr => PR (w.heap.size + 1 + 1) d.size k (fun j => (d.data.toList.getD j 0).toNat) ((w.alloc (.cells #[.bool false, .string d] 34)).alloc (.cells #[.bool false, .string ⟨#[]⟩] 34)) c kk wr) (fun _ kk _ => (intOf kk + 1).toNat)
    case atStart =>
      have hr := row_start ((w.alloc (.cells #[.bool false, .string d] 34)).alloc (.cells #[.bool false, .string ⟨#[]⟩] 34)) d HC.out.dg
      have hb := Joins.below_bytesWorld (w.heap.size + 1 + 1) ((w.alloc (.cells #[.bool false, .string d] 34)).alloc (.cells #[.bool false, .string ⟨#[]⟩] 34)) 5 d (by simp)
      have hz := Lib.bytesWorld_size ((w.alloc (.cells #[.bool false, .string d] 34)).alloc (.cells #[.bool false, .string ⟨#[]⟩] 34)) 5 d
      have e : ((w.alloc (.cells #[.bool false, .string d] 34)).alloc (.cells #[.bool false, .string ⟨#[]⟩] 34)).heap.size = w.heap.size + 1 + 1 := by simp
      rw [e] at hr hz
      exact PR.start (by omega) (by omega) hr hb (by omega)
    case round =>
      obtain ⟨cv, kv, g, rfl, rfl, h1, h2, h3, h4, hrow, hB, hN, h0⟩ := hrel
      have HR := hide hrow
      have HB := hide hB
      have H0 := hide h0
      clear hrow hB h0
      by_cases hgo : 0 ≤ kv ∧ cv ≠ 0
      · obtain ⟨hkv, hcv0⟩ := hgo
        have hcv' : (cv != 0) = true := by simpa using hcv0
        obtain ⟨q, rfl⟩ := Int.eq_ofNat_of_zero_le hkv
        have hq : q < d.size := by omega
        have gd := HR.out.dg q hq
        have gc := HR.out.cell q hq
        have gf := HR.out.frz q hq
        have Hcv0 := hide hcv0
        clear hcv0
        go_wp2
        go_roundw
        case rel => exact PR.step hq h3 h4 Hcv0.out HR.out HB.out hN H0.out
        case measure => simp [intOf]
      · have hcs := fun cap => run_convert_bytes_arg (P := Tryd.prog) wr 26 5 Tryd.underlying26 Tryd.underlying5 (w.heap.size + 1 + 1) 0 d.size cap (rowText d.size g) (by simp [rowText]) (fun j hj => by rw [Nat.zero_add, HR.out.cell j hj]; simp [rowText, hj]) 9 Tryd.underlying9
        have HBN : Hid (Below (w.heap.size + 2) ((w.alloc (.cells #[.bool false, .string d] 34)).alloc (.cells #[.bool false, .string ⟨#[]⟩] 34)) wr) := HB.out
        obtain ⟨b1, b2, b3, b4, b5, b6, b7, b8⟩ := two_blocks HBN.out
        have B8 := hide b8
        clear b8 hcv
        have hex : (kv < 0 ∧ 0 < cv) ∨ (kv < 0 ∧ cv ≤ 0) ∨ (0 ≤ kv ∧ cv = 0) := by omega
        rcases hex with ⟨x1, x2⟩ | ⟨x1, x2⟩ | ⟨x1, x2⟩
        · go_wp2_with fail
          refine (E.fmt _ (Hb.out.trans (B8.out.mono Hb.out.size)) cv (by omega) (by omega)).mono ?_
          rintro e w2 ⟨u, rfl, hu, hb2⟩
          have Hu := hide hu
          have HBM : Hid (Below (w.heap.size + 2) ((w.alloc (.cells #[.bool false, .string d] 34)).alloc (.cells #[.bool false, .string ⟨#[]⟩] 34)) w2) := HBN.out.trans (hb2.mono b7)
          have hus : u.size ≤ 21 := by
            have := Lib.itoa_length_le cv (by omega) (by omega)
            rw [← len_data, Hu.out]; exact this
          have hss : (strOfNums (rowText d.size g)).size ≤ 4294967296 := by rw [strOfNums_size]; simp [rowText]; exact hl2
          have hk0 : Hid (k ≠ 0) := fun h => by have := (H0.out (by omega)).1; omega
          clear hu hb2 b1 b2 b3 b4 b5 b6
          obtain ⟨c1, c2, c3, c4, c5, c6, c7, c8⟩ := two_blocks HBM.out
          have C8 := hide c8
          clear c8
          go_wp2_with fail
          go_region_with (go_at_call 23; refine (trimLeft_c _ _).mono ?_; rintro e w' ⟨t, rfl, ht, hw⟩; subst hw)
          all_goals
            have Ht := hide ht
            clear ht
            have hout : Hid (PlusOut false d k false t) := out_carry HR.out.dg hk0.out x2 h4 Hu.out Ht.out
            have hc0 : Hid (((w2.setCell ⟨w.heap.size + 1, 0, none⟩ (.bool false)).setCell ⟨w.heap.size + 1, 1, none⟩ (.string t)).cell? ⟨w.heap.size + 1, 0, none⟩ = some (.bool false)) := by
              rw [World.cell?_setCell_other _ _ _ _ (by simp)]; exact World.cell?_setCell_same _ _ _ c1
            have hc1 : Hid (((w2.setCell ⟨w.heap.size + 1, 0, none⟩ (.bool false)).setCell ⟨w.heap.size + 1, 1, none⟩ (.string t)).cell? ⟨w.heap.size + 1, 1, none⟩ = some (.string t)) :=
              World.cell?_setCell_same _ _ _ (by rw [World.cell?_setCell_other _ _ _ _ (by simp)]; exact c2)
            go_wp2
            refine bodyPost_ret (v := .agg #[.bool false, .string t]) (by simp [results, Tryd.results26, go_sem, hc0.out, hc1.out]) rfl ⟨false, t, rfl, hout.out, ?_⟩
            exact ((C8.out.setCell (by simp) _).setCell (by simp) _).drew
        · go_wp2_with fail
          go_region_with (go_at_call 23; refine (trimLeft_c _ _).mono ?_; rintro e w' ⟨t, rfl, ht, hw⟩; subst hw)
          all_goals
            have Ht := hide ht
            clear ht
            have hout : Hid (PlusOut false d k false t) := out_plain HC.out HR.out.dg (fun h => (H0.out (by omega)).2) Ht.out
            have hc0 : Hid (((wr.setCell ⟨w.heap.size + 1, 0, none⟩ (.bool false)).setCell ⟨w.heap.size + 1, 1, none⟩ (.string t)).cell? ⟨w.heap.size + 1, 0, none⟩ = some (.bool false)) := by
              rw [World.cell?_setCell_other _ _ _ _ (by simp)]; exact World.cell?_setCell_same _ _ _ b1
            have hc1 : Hid (((wr.setCell ⟨w.heap.size + 1, 0, none⟩ (.bool false)).setCell ⟨w.heap.size + 1, 1, none⟩ (.string t)).cell? ⟨w.heap.size + 1, 1, none⟩ = some (.string t)) :=
              World.cell?_setCell_same _ _ _ (by rw [World.cell?_setCell_other _ _ _ _ (by simp)]; exact b2)
            go_wp2
            refine bodyPost_ret (v := .agg #[.bool false, .string t]) (by simp [results, Tryd.results26, go_sem, hc0.out, hc1.out]) rfl ⟨false, t, rfl, hout.out, ?_⟩
            exact ((B8.out.setCell (by simp) _).setCell (by simp) _).drew
        · have x2' : (cv != 0) = false := by simp [x2]
          have Hx2 := hide x2
          have x3 : cv ≤ 0 := by omega
          clear x2
          go_wp2_with fail
          go_region_with (go_at_call 23; refine (trimLeft_c _ _).mono ?_; rintro e w' ⟨t, rfl, ht, hw⟩; subst hw)
          all_goals
            have Ht := hide ht
            clear ht
            have hout : Hid (PlusOut false d k false t) := out_plain HC.out HR.out.dg (fun h => (H0.out (by omega)).2) Ht.out
            have hc0 : Hid (((wr.setCell ⟨w.heap.size + 1, 0, none⟩ (.bool false)).setCell ⟨w.heap.size + 1, 1, none⟩ (.string t)).cell? ⟨w.heap.size + 1, 0, none⟩ = some (.bool false)) := by
              rw [World.cell?_setCell_other _ _ _ _ (by simp)]; exact World.cell?_setCell_same _ _ _ b1
            have hc1 : Hid (((wr.setCell ⟨w.heap.size + 1, 0, none⟩ (.bool false)).setCell ⟨w.heap.size + 1, 1, none⟩ (.string t)).cell? ⟨w.heap.size + 1, 1, none⟩ = some (.string t)) :=
              World.cell?_setCell_same _ _ _ (by rw [World.cell?_setCell_other _ _ _ _ (by simp)]; exact b2)
            go_wp2
            refine bodyPost_ret (v := .agg #[.bool false, .string t]) (by simp [results, Tryd.results26, go_sem, hc0.out, hc1.out]) rfl ⟨false, t, rfl, hout.out, ?_⟩
            exact ((B8.out.setCell (by simp) _).setCell (by simp) _).drew
  · go_enter Tryd.func26, Tryd.ntmps26
    go_wp2
    go_loopw [8, 9] (fun c kk wr => PR (w.heap.size + 1 + 1) d.size (-k) (fun j => (d.data.toList.getD j 0).toNat) ((w.alloc (.cells #[.bool true, .string d] 34)).alloc (.cells #[.bool false, .string ⟨#[]⟩] 34)) c kk wr) (fun _ kk _ => (intOf kk + 1).toNat)
    case atStart =>
      have hr := row_start ((w.alloc (.cells #[.bool true, .string d] 34)).alloc (.cells #[.bool false, .string ⟨#[]⟩] 34)) d HC.out.dg
      have hb := Joins.below_bytesWorld (w.heap.size + 1 + 1) ((w.alloc (.cells #[.bool true, .string d] 34)).alloc (.cells #[.bool false, .string ⟨#[]⟩] 34)) 5 d (by simp)
      have hz := Lib.bytesWorld_size ((w.alloc (.cells #[.bool true, .string d] 34)).alloc (.cells #[.bool false, .string ⟨#[]⟩] 34)) 5 d
      have e : ((w.alloc (.cells #[.bool true, .string d] 34)).alloc (.cells #[.bool false, .string ⟨#[]⟩] 34)).heap.size = w.heap.size + 1 + 1 := by simp
      rw [e] at hr hz
      exact PR.start (by omega) (by omega) hr hb (by omega)
    case round =>
      obtain ⟨cv, kv, g, rfl, rfl, h1, h2, h3, h4, hrow, hB, hN, h0⟩ := hrel
      have HR := hide hrow
      have HB := hide hB
      have H0 := hide h0
      clear hrow hB h0
      by_cases hgo : 0 ≤ kv ∧ cv ≠ 0
      · obtain ⟨hkv, hcv0⟩ := hgo
        have hcv' : (cv != 0) = true := by simpa using hcv0
        obtain ⟨q, rfl⟩ := Int.eq_ofNat_of_zero_le hkv
        have hq : q < d.size := by omega
        have gd := HR.out.dg q hq
        have gc := HR.out.cell q hq
        have gf := HR.out.frz q hq
        have Hcv0 := hide hcv0
        clear hcv0
        go_wp2
        go_roundw
        case rel => exact PR.step hq h3 h4 Hcv0.out HR.out HB.out hN H0.out
        case measure => simp [intOf]
      · have hcs := fun cap => run_convert_bytes_arg (P := Tryd.prog) wr 26 5 Tryd.underlying26 Tryd.underlying5 (w.heap.size + 1 + 1) 0 d.size cap (rowText d.size g) (by simp [rowText]) (fun j hj => by rw [Nat.zero_add, HR.out.cell j hj]; simp [rowText, hj]) 9 Tryd.underlying9
        have HBN : Hid (Below (w.heap.size + 2) ((w.alloc (.cells #[.bool true, .string d] 34)).alloc (.cells #[.bool false, .string ⟨#[]⟩] 34)) wr) := HB.out
        obtain ⟨b1, b2, b3, b4, b5, b6, b7, b8⟩ := two_blocks HBN.out
        have B8 := hide b8
        clear b8 hcv
        have hex : (kv < 0 ∧ 0 < cv) ∨ (kv < 0 ∧ cv ≤ 0) ∨ (0 ≤ kv ∧ cv = 0) := by omega
        rcases hex with ⟨x1, x2⟩ | ⟨x1, x2⟩ | ⟨x1, x2⟩
        · go_wp2_with fail
          refine (E.fmt _ (Hb.out.trans (B8.out.mono Hb.out.size)) cv (by omega) (by omega)).mono ?_
          rintro e w2 ⟨u, rfl, hu, hb2⟩
          have Hu := hide hu
          have HBM : Hid (Below (w.heap.size + 2) ((w.alloc (.cells #[.bool true, .string d] 34)).alloc (.cells #[.bool false, .string ⟨#[]⟩] 34)) w2) := HBN.out.trans (hb2.mono b7)
          have hus : u.size ≤ 21 := by
            have := Lib.itoa_length_le cv (by omega) (by omega)
            rw [← len_data, Hu.out]; exact this
          have hss : (strOfNums (rowText d.size g)).size ≤ 4294967296 := by rw [strOfNums_size]; simp [rowText]; exact hl2
          have hk0 : Hid (k ≠ 0) := fun h => by have := (H0.out (by omega)).1; omega
          clear hu hb2 b1 b2 b3 b4 b5 b6
          obtain ⟨c1, c2, c3, c4, c5, c6, c7, c8⟩ := two_blocks HBM.out
          have C8 := hide c8
          clear c8
          go_wp2_with fail
          go_region_with (go_at_call 23; refine (trimLeft_c _ _).mono ?_; rintro e w' ⟨t, rfl, ht, hw⟩; subst hw)
          all_goals
            have Ht := hide ht
            clear ht
            have hout : Hid (PlusOut true d k true t) := out_carry HR.out.dg hk0.out x2 h4 Hu.out Ht.out
            have hc0 : Hid (((w2.setCell ⟨w.heap.size + 1, 0, none⟩ (.bool true)).setCell ⟨w.heap.size + 1, 1, none⟩ (.string t)).cell? ⟨w.heap.size + 1, 0, none⟩ = some (.bool true)) := by
              rw [World.cell?_setCell_other _ _ _ _ (by simp)]; exact World.cell?_setCell_same _ _ _ c1
            have hc1 : Hid (((w2.setCell ⟨w.heap.size + 1, 0, none⟩ (.bool true)).setCell ⟨w.heap.size + 1, 1, none⟩ (.string t)).cell? ⟨w.heap.size + 1, 1, none⟩ = some (.string t)) :=
              World.cell?_setCell_same _ _ _ (by rw [World.cell?_setCell_other _ _ _ _ (by simp)]; exact c2)
            go_wp2
            refine bodyPost_ret (v := .agg #[.bool true, .string t]) (by simp [results, Tryd.results26, go_sem, hc0.out, hc1.out]) rfl ⟨true, t, rfl, hout.out, ?_⟩
            exact ((C8.out.setCell (by simp) _).setCell (by simp) _).drew
        · go_wp2_with fail
          go_region_with (go_at_call 23; refine (trimLeft_c _ _).mono ?_; rintro e w' ⟨t, rfl, ht, hw⟩; subst hw)
          all_goals
            have Ht := hide ht
            clear ht
            have hout : Hid (PlusOut true d k true t) := out_plain HC.out HR.out.dg (fun h => (H0.out (by omega)).2) Ht.out
            have hc0 : Hid (((wr.setCell ⟨w.heap.size + 1, 0, none⟩ (.bool true)).setCell ⟨w.heap.size + 1, 1, none⟩ (.string t)).cell? ⟨w.heap.size + 1, 0, none⟩ = some (.bool true)) := by
              rw [World.cell?_setCell_other _ _ _ _ (by simp)]; exact World.cell?_setCell_same _ _ _ b1
            have hc1 : Hid (((wr.setCell ⟨w.heap.size + 1, 0, none⟩ (.bool true)).setCell ⟨w.heap.size + 1, 1, none⟩ (.string t)).cell? ⟨w.heap.size + 1, 1, none⟩ = some (.string t)) :=
              World.cell?_setCell_same _ _ _ (by rw [World.cell?_setCell_other _ _ _ _ (by simp)]; exact b2)
            go_wp2
            refine bodyPost_ret (v := .agg #[.bool true, .string t]) (by simp [results, Tryd.results26, go_sem, hc0.out, hc1.out]) rfl ⟨true, t, rfl, hout.out, ?_⟩
            exact ((B8.out.setCell (by simp) _).setCell (by simp) _).drew
        · have x2' : (cv != 0) = false := by simp [x2]
          have Hx2 := hide x2
          have x3 : cv ≤ 0 := by omega
          clear x2
          go_wp2_with fail
          go_region_with (go_at_call 23; refine (trimLeft_c _ _).mono ?_; rintro e w' ⟨t, rfl, ht, hw⟩; subst hw)
          all_goals
            have Ht := hide ht
            clear ht
            have hout : Hid (PlusOut true d k true t) := out_plain HC.out HR.out.dg (fun h => (H0.out (by omega)).2) Ht.out
            have hc0 : Hid (((wr.setCell ⟨w.heap.size + 1, 0, none⟩ (.bool true)).setCell ⟨w.heap.size + 1, 1, none⟩ (.string t)).cell? ⟨w.heap.size + 1, 0, none⟩ = some (.bool true)) := by
              rw [World.cell?_setCell_other _ _ _ _ (by simp)]; exact World.cell?_setCell_same _ _ _ b1
            have hc1 : Hid (((wr.setCell ⟨w.heap.size + 1, 0, none⟩ (.bool true)).setCell ⟨w.heap.size + 1, 1, none⟩ (.string t)).cell? ⟨w.heap.size + 1, 1, none⟩ = some (.string t)) :=
              World.cell?_setCell_same _ _ _ (by rw [World.cell?_setCell_other _ _ _ _ (by simp)]; exact b2)
            go_wp2
            refine bodyPost_ret (v := .agg #[.bool true, .string t]) (by simp [results, Tryd.results26, go_sem, hc0.out, hc1.out]) rfl ⟨true, t, rfl, hout.out, ?_⟩
            exact ((B8.out.setCell (by simp) _).setCell (by simp) _).drew
end Go.Proofs.Qxb6606282aDoor
