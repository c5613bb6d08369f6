import Derived.Test.Qxb6600516aDoorWalksB
import Derived.Test.Qxb6600516aDoorShelf
import Derived.Below
namespace Go.Proofs.Qxb6600516aDoor
open Go.RowKit

theorem sd_le : ∀ (l : List UInt8) (p : List UInt8), p ∈ sd l → p.length ≤ l.length
  | [], p, h => by simp [sd] at h; subst h; simp
  | c :: r, p, h => by
    obtain ⟨p', ps', hs⟩ := sd_ne r
    by_cases hc : c.toNat = 46
    · rw [sd_dot hc] at h
      rcases List.mem_cons.1 h with rfl | h
      · simp
      · have := sd_le r p h; simp; omega
    · rw [sd_other hc hs] at h
      rcases List.mem_cons.1 h with rfl | h
      · have := sd_le r p' (by rw [hs]; simp); simp; omega
      · have := sd_le r p (by rw [hs]; simp [h]); simp; omega

/-- The pieces. -/
def cuts (s : ByteArray) : List ByteArray := Lib.splitB ⟨#[46]⟩ 0 (Lib.countB s ⟨#[46]⟩) s
theorem cuts_data (s : ByteArray) : (cuts s).map (·.data.toList) = sd s.data.toList := by
  unfold cuts
  rw [Lib.splitB_data]
  exact splitK_sd _ _ (Nat.le_refl _)
theorem cuts_length (s : ByteArray) : (cuts s).length = Lib.countB s ⟨#[46]⟩ + 1 := by
  have h := congrArg List.length (cuts_data s)
  rw [List.length_map] at h
  rw [h]
  exact sd_length _ _ rfl
theorem cuts_size (s p : ByteArray) (h : p ∈ cuts s) : p.size ≤ s.size := by
  have h1 : p.data.toList ∈ sd s.data.toList := by rw [← cuts_data]; exact List.mem_map_of_mem h
  have := sd_le _ _ h1
  rw [len_data, len_data] at this
  exact this
theorem cuts_all (s : ByteArray) (nz : Bool) : (cuts s).all (fun p => pcOK nz p.data.toList) = (sd s.data.toList).all (pcOK nz) := by
  rw [← cuts_data, List.all_map]; rfl

/-- What holds at the head of the inner loop. -/
def IR (p : ByteArray) (dg i : Value) : Prop :=
  ∃ (j : Nat) (d : Bool), dg = .bool d ∧ i = .int .i64 j ∧ j ≤ p.size ∧ scan (p.data.toList.drop j) d = scan p.data.toList true
theorem IR.mk' {p : ByteArray} {d : Bool} {i : Int} (j : Nat) (hi : i = j) (h1 : j ≤ p.size) (h2 : scan (p.data.toList.drop j) d = scan p.data.toList true) : IR p (.bool d) (.int .i64 i) := by
  subst hi
  exact ⟨j, d, rfl, rfl, h1, h2⟩
theorem pc_empty {nz : Bool} {p : ByteArray} (h : p.size = 0) : pcOK nz p.data.toList = false := by
  unfold pcOK; rw [is_empty h]; rfl
theorem pc_none {nz : Bool} {p : ByteArray} (h : scan p.data.toList true = none) : pcOK nz p.data.toList = false := by
  unfold pcOK; rw [h]; simp
theorem pc_some {nz d : Bool} {p : ByteArray} (h0 : p.size ≠ 0) (h : scan p.data.toList true = some d) : pcOK nz p.data.toList = !(nz && d && !nmB p.data.toList) := by
  unfold pcOK; rw [ne_empty h0, h]; rfl

set_option maxRecDepth 100000 in
set_option maxHeartbeats 4000000 in
theorem identifiers_any (s : ByteArray) (nz : Bool) (hn : s.size ≤ 65536) (m : Int) (w : World) (hm : w.cell? ⟨0, 0, none⟩ = some (.int .i64 m)) :
    Calls Tryd.prog 21 #[.string s, .bool nz] w fun e w' => e = .returned (.bool ((sd s.data.toList).all (pcOK nz))) ∧ Below w.heap.size w w' := by
  rw [← cuts_all]
  obtain ⟨R, hR⟩ : ∃ R, (cuts s).all (fun p => pcOK nz p.data.toList) = R := ⟨_, rfl⟩
  rw [hR]
  have HR := hide hR
  clear hR
  have hsp := Tryd.strings_Split s ⟨#[46]⟩ m w (by omega) hm (by decide)
  rw [← cuts_length] at hsp
  have hsp' : Calls Tryd.prog 27 #[.string s, .string ⟨#[46]⟩] w fun e w' =>
      e = .returned (.slice (some ⟨w.heap.size, 0, none⟩) (cuts s).length (cuts s).length) ∧ w' = w.alloc (.cells ((cuts s).map Value.string).toArray 9) := hsp
  have Hsp := hide hsp'
  clear hsp hsp'
  have hsz := cuts_size s
  have hln : (cuts s).length ≤ s.size + 2 := by
    rw [cuts_length]
    have := Lib.count_le s.data.toList [46]
    rw [len_data] at this
    show Lib.count s.data.toList [46] + 1 ≤ _
    omega
  generalize cuts s = L at HR Hsp hsz hln
  have hcell : ∀ k, (h : k < L.length) → (w.alloc (.cells (L.map Value.string).toArray 9)).cell? ⟨w.heap.size, k, none⟩ = some (.string L[k]) := by
    intro k h
    have := World.rowIs_alloc w (L.map Value.string).toArray 9 (fun i => (L.map Value.string).getD i undef) (fun i hi => by simp at hi; simp [hi])
    have h2 := this.cell (i := k) (by simp; exact h)
    rw [h2]
    simp [h]
  have Hc := hide hcell
  clear hcell
  go_enter Tryd.func21, Tryd.ntmps21
  go_wp2_with fail
  refine Hsp.out.mono ?_
  rintro e w' ⟨rfl, rfl⟩
  go_wp2
  go_loop [13] (fun v => ∃ k : Nat, v = .int .i64 k ∧ k ≤ L.length ∧ Hid ((L.drop k).all (fun p => pcOK nz p.data.toList) = R)) (fun v => L.length - (intOf v).toNat)
  case atStart => exact ⟨0, rfl, Nat.zero_le _, HR⟩
  case round =>
    obtain ⟨k, rfl, hk, hr⟩ := hrel
    by_cases hlt : k < L.length
    · have hlt' : (k : Int) < L.length := by omega
      have hck := Hc.out k hlt
      have hps := hsz L[k] (List.getElem_mem hlt)
      have hd : Hid ((pcOK nz (L[k]).data.toList && (L.drop (k + 1)).all (fun p => pcOK nz p.data.toList)) = R) := by
        have := hr.out
        rw [List.drop_eq_getElem_cons hlt, List.all_cons] at this
        exact this
      generalize L[k] = p at hck hps hd
      by_cases hz : p.size = 0
      · have he : p.toList.isEmpty = true := by rw [ByteArray.toList_eq]; exact is_empty hz
        have hfin : Hid (R = false) := by rw [← hd.out, pc_empty hz]; rfl
        go_wp2
        go_ret
        exact ⟨ret_bool hfin.out.symm, (Below.refl _ _).alloc (Nat.le_refl _) _⟩
      · have he : p.toList.isEmpty = false := by rw [ByteArray.toList_eq]; exact ne_empty hz
        go_wp2
        go_loop [7, 8] (fun dg i => IR p dg i) (fun _ i => p.size - (intOf i).toNat)
        case atStart => exact IR.mk' 0 rfl (Nat.zero_le _) rfl
        case round =>
          obtain ⟨j, d, rfl, rfl, hjs, hs0⟩ := hrel
          have hs := hide hs0
          clear hs0
          by_cases hj : j < p.size
          · have hj' : (j : Int) < p.size := by omega
            have hsc : Hid ((if idB p[j] then scan (p.data.toList.drop (j + 1)) (d && dgB p[j]) else none) = scan p.data.toList true) := by
              rw [← hs.out, drop_at p j hj, scan]; exact rfl
            obtain ⟨c, hc⟩ : ∃ c : Nat, p[j].toNat = c := ⟨_, rfl⟩
            have hidB : idB p[j] = decide ((48 ≤ c ∧ c ≤ 57) ∨ (97 ≤ c ∧ c ≤ 122) ∨ (65 ≤ c ∧ c ≤ 90) ∨ c = 45) := by rw [idB, hc]
            have hdgB : dgB p[j] = decide (48 ≤ c ∧ c ≤ 57) := by rw [dgB, hc]
            have hall : (48 ≤ c ∧ c ≤ 57) ∨ (97 ≤ c ∧ c ≤ 122) ∨ (65 ≤ c ∧ c ≤ 90) ∨ c = 45 ∨ (c < 45 ∨ (46 ≤ c ∧ c ≤ 47)) ∨ (58 ≤ c ∧ c ≤ 64) ∨ (91 ≤ c ∧ c ≤ 96) ∨ 123 ≤ c := by omega
            rw [hidB, hdgB] at hsc
            clear hidB hdgB
            rcases hall with hA | hA | hA | hA | hA | hA | hA | hA
            · have hstep : Hid (scan (p.data.toList.drop (j + 1)) d = scan p.data.toList true) := by
                rw [← hsc.out, if_pos (decide_eq_true (by omega)), decide_eq_true hA, Bool.and_true]; exact rfl
              have hx1 : 48 ≤ (p[j].toNat : Int) := by omega
              have hx2 : (p[j].toNat : Int) ≤ 57 := by omega
              clear hsc hc
              go_wp2
              go_round
              case rel => exact IR.mk' (j + 1) (by omega) (by omega) hstep.out
              case measure => simp [intOf]; omega
            · have hstep : Hid (scan (p.data.toList.drop (j + 1)) false = scan p.data.toList true) := by
                rw [← hsc.out, if_pos (decide_eq_true (by omega)), decide_eq_false (by omega), Bool.and_false]; exact rfl
              have hx1 : 97 ≤ (p[j].toNat : Int) := by omega
              have hx2 : (p[j].toNat : Int) ≤ 122 := by omega
              clear hsc hc
              go_wp2
              go_round
              case rel => exact IR.mk' (j + 1) (by omega) (by omega) hstep.out
              case measure => simp [intOf]; omega
            · have hstep : Hid (scan (p.data.toList.drop (j + 1)) false = scan p.data.toList true) := by
                rw [← hsc.out, if_pos (decide_eq_true (by omega)), decide_eq_false (by omega), Bool.and_false]; exact rfl
              have hx1 : 65 ≤ (p[j].toNat : Int) := by omega
              have hx2 : (p[j].toNat : Int) ≤ 90 := by omega
              clear hsc hc
              go_wp2
              go_round
              case rel => exact IR.mk' (j + 1) (by omega) (by omega) hstep.out
              case measure => simp [intOf]; omega
            · have hstep : Hid (scan (p.data.toList.drop (j + 1)) false = scan p.data.toList true) := by
                rw [← hsc.out, if_pos (decide_eq_true (by omega)), decide_eq_false (by omega), Bool.and_false]; exact rfl
              have hx1 : (p[j].toNat : Int) < 48 := by omega
              have hx2 : ((p[j].toNat : Int) == 45) = true := by simp; omega
              clear hsc hc
              go_wp2
              go_round
              case rel => exact IR.mk' (j + 1) (by omega) (by omega) hstep.out
              case measure => simp [intOf]; omega
            · have hfin : Hid (R = false) := by
                rw [← hd.out, pc_none (by rw [← hsc.out, if_neg (by simp; omega)])]; exact rfl
              have hx1 : (p[j].toNat : Int) < 48 := by omega
              have hx2 : ((p[j].toNat : Int) == 45) = false := by simp; omega
              clear hsc hc
              go_wp2
              go_ret
              exact ⟨ret_bool hfin.out.symm, (Below.refl _ _).alloc (Nat.le_refl _) _⟩
            · have hfin : Hid (R = false) := by
                rw [← hd.out, pc_none (by rw [← hsc.out, if_neg (by simp; omega)])]; exact rfl
              have hx1 : 58 ≤ (p[j].toNat : Int) := by omega
              have hx2 : (p[j].toNat : Int) ≤ 64 := by omega
              have hx3 : ((p[j].toNat : Int) == 45) = false := by simp; omega
              clear hsc hc
              go_wp2
              go_ret
              exact ⟨ret_bool hfin.out.symm, (Below.refl _ _).alloc (Nat.le_refl _) _⟩
            · have hfin : Hid (R = false) := by
                rw [← hd.out, pc_none (by rw [← hsc.out, if_neg (by simp; omega)])]; exact rfl
              have hx1 : 91 ≤ (p[j].toNat : Int) := by omega
              have hx2 : (p[j].toNat : Int) ≤ 96 := by omega
              have hx3 : ((p[j].toNat : Int) == 45) = false := by simp; omega
              clear hsc hc
              go_wp2
              go_ret
              exact ⟨ret_bool hfin.out.symm, (Below.refl _ _).alloc (Nat.le_refl _) _⟩
            · have hfin : Hid (R = false) := by
                rw [← hd.out, pc_none (by rw [← hsc.out, if_neg (by simp; omega)])]; exact rfl
              have hx1 : 123 ≤ (p[j].toNat : Int) := by omega
              have hx3 : ((p[j].toNat : Int) == 45) = false := by simp; omega
              clear hsc hc
              go_wp2
              go_ret
              exact ⟨ret_bool hfin.out.symm, (Below.refl _ _).alloc (Nat.le_refl _) _⟩
          · have hj' : ¬ ((j : Int) < p.size) := by omega
            have hsm : Hid (scan p.data.toList true = some d) := by
              rw [← hs.out, drop_end p j (by omega)]; exact rfl
            have hpc : Hid (((!(nz && d && !nmB p.data.toList)) && (L.drop (k + 1)).all (fun p => pcOK nz p.data.toList)) = R) := by
              rw [← hd.out, pc_some hz hsm.out]; exact rfl
            cases nz
            · have hfin : Hid ((L.drop (k + 1)).all (fun p => pcOK false p.data.toList) = R) := by
                exact hide (by simpa using hpc.out)
              go_wp2
              go_round
              case rel => exact ⟨k + 1, by go_num, by omega, hfin⟩
              case measure => simp [intOf]; omega
            cases d
            · have hfin : Hid ((L.drop (k + 1)).all (fun p => pcOK true p.data.toList) = R) := by
                exact hide (by simpa using hpc.out)
              go_wp2
              go_round
              case rel => exact ⟨k + 1, by go_num, by omega, hfin⟩
              case measure => simp [intOf]; omega
            obtain ⟨b, hb⟩ : ∃ b, nmB p.data.toList = b := ⟨_, rfl⟩
            have hC : Hid (∀ w, Calls Tryd.prog 28 #[.string p] w fun e w' => e = .returned (.bool b) ∧ w' = w) := by
              intro w
              have hx := isNumber_any p (by omega) w
              rw [hb] at hx
              exact hx
            rw [hb] at hpc
            clear hb
            cases b
            · have hfin : Hid (R = false) := by rw [← hpc.out]; exact rfl
              go_wp2_with (go_at_call 28; refine (hC.out _).mono ?_; rintro e w' ⟨rfl, hw⟩; obtain rfl := hw.symm; clear hw)
              go_ret
              exact ⟨ret_bool hfin.out.symm, (Below.refl _ _).alloc (Nat.le_refl _) _⟩
            · have hfin : Hid ((L.drop (k + 1)).all (fun p => pcOK true p.data.toList) = R) := by
                exact hide (by simpa using hpc.out)
              go_wp2_with (go_at_call 28; refine (hC.out _).mono ?_; rintro e w' ⟨rfl, hw⟩; obtain rfl := hw.symm; clear hw)
              go_round
              case rel => exact ⟨k + 1, by go_num, by omega, hfin⟩
              case measure => simp [intOf]; omega
    · have hlt' : ¬ ((k : Int) < L.length) := by omega
      have hfin : Hid (R = true) := by
        have := hr.out
        rw [List.drop_of_length_le (by omega)] at this
        exact this.symm
      go_wp2
      go_ret
      exact ⟨ret_bool hfin.out.symm, (Below.refl _ _).alloc (Nat.le_refl _) _⟩
end Go.Proofs.Qxb6600516aDoor
