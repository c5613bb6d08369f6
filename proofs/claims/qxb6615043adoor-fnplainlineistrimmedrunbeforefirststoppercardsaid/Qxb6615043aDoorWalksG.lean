import Derived.Test.Qxb6615043aDoorWalksE
import Derived.Test.Qxb6615043aDoorPlain4
import Derived.Deep.QuietTactic
import Derived.BigQuiet
import Derived.Deep.RegionWith
import Derived.WalkSmall
namespace Go.Proofs.Qxb6615043aDoor
open Go.RowKit

/-- The bytes l lie at b, from off on. -/
def At (w : World) (b off : Nat) (l : List UInt8) : Prop := ∀ j, j < l.length → w.cell? ⟨b, off + j, none⟩ = some (.int .u8 (fl l j))
theorem At.drewN {w : World} {b off : Nat} {l : List UInt8} (h : At w b off l) (m : Nat) : At (w.drewN m) b off l := fun j hj => h j hj

theorem zzDecode_rn {w : World} {b off : Nat} {l : List UInt8} (h : At w b off l) (cap i : Nat) (hi : i < l.length) (hn : l.length ≤ 1048576) :
    Calls Tryd.prog 17 #[.slice (some ⟨b, off, none⟩) l.length cap, .int .i64 i] w fun e w' => e = .returned (.tuple #[.int .i32 (rn l i).1, .int .i64 (rn l i).2]) ∧ ∃ m, w' = w.drewN m := by
  unfold rn
  rw [if_pos hi]
  exact zzDecode_any b off l.length cap i (fl l) w hi hn (fl_lt l) h

set_option maxRecDepth 100000 in
set_option maxHeartbeats 1000000 in
theorem zzPlainOK_any {w : World} {b off : Nat} {l : List UInt8} (h : At w b off l) (cap start i : Nat) (hs : start ≤ i) (hi : i < l.length) (hn : l.length ≤ 1048576) (flow : Bool) :
    Calls Tryd.prog 16 #[.slice (some ⟨b, off, none⟩) l.length cap, .int .i64 start, .int .i64 i, .bool flow] w fun e w' => e = .returned (.bool (okB l start i flow)) ∧ ∃ m, w' = w.drewN m := by
  have H := hide h
  have hrb := rn_bd hi
  have Hr := hide hrb
  cases hsf : safeB (rn l i).1 flow
  · have hr : okB l start i flow = false := by simp [okB, pcB, hsf]
    rw [hr]
    clear hr h hrb
    have Hs := hide hsf
    clear hsf
    go_enter Tryd.func16, Tryd.ntmps16
    go_wp2_with fail
    refine (zzDecode_rn H.out cap i hi hn).mono ?_
    rintro e w' ⟨rfl, m, rfl⟩
    have hs := Hs.out
    go_wp2_with (go_at_call 19; refine (zzSafe_any _ _ _).mono ?_; rintro e w'' ⟨rfl, rfl⟩)
    go_ret
    exact ⟨rfl, m, rfl⟩
  have Hs := hide hsf
  by_cases h58 : (rn l i).1 = 58
  · have hr : okB l start i flow = safeB (rn l (i + (rn l i).2)).1 flow := by unfold okB pcB; rw [if_neg (by simp [hsf]), if_pos h58]
    rw [hr]
    have H58 : Hid (((rn l i).1 == 58) = true) := beq_iff_eq.2 h58
    clear hr h hsf h58
    by_cases hj : i + (rn l i).2 < l.length
    · have hj' : ((i : Int) + ((rn l i).2 : Int)) < l.length := by omega
      have Hj := hide hj
      clear hj hrb
      go_enter Tryd.func16, Tryd.ntmps16
      go_wp2_with fail
      refine (zzDecode_rn H.out cap i hi hn).mono ?_
      rintro e w' ⟨rfl, m, rfl⟩
      have hs := Hs.out
      have h58 := H58.out
      have hrb := Hr.out
      go_wp2_with (go_at_call 19; refine (zzSafe_any _ _ _).mono ?_; rintro e w'' ⟨rfl, rfl⟩)
      rw [show ((i : Int) + ((rn l i).2 : Int)) = ((i + (rn l i).2 : Nat) : Int) from by omega]
      refine (zzDecode_rn (H.out.drewN m) cap _ Hj.out hn).mono ?_
      rintro e w' ⟨rfl, m', rfl⟩
      go_wp2_with (go_at_call 19; refine (zzSafe_any _ _ _).mono ?_; rintro e w'' ⟨rfl, rfl⟩)
      go_ret
      exact ⟨rfl, m + m', by simp [World.drewN]⟩
    · have hj' : l.length ≤ ((i : Int) + ((rn l i).2 : Int)) := by omega
      rw [rn_out (i := i + (rn l i).2) (by omega), safe_neg]
      clear hj hrb
      go_enter Tryd.func16, Tryd.ntmps16
      go_wp2_with fail
      refine (zzDecode_rn H.out cap i hi hn).mono ?_
      rintro e w' ⟨rfl, m, rfl⟩
      have hs := Hs.out
      have h58 := H58.out
      have hrb := Hr.out
      go_wp2_with (go_at_call 19; refine (zzSafe_any _ _ _).mono ?_; rintro e w'' ⟨rfl, rfl⟩)
      go_ret
      exact ⟨rfl, m, rfl⟩
  have H58 : Hid (((rn l i).1 == 58) = false) := beq_eq_false_iff_ne.2 h58
  by_cases h35 : (rn l i).1 = 35
  · have hr : okB l start i flow = !(decide (i = start) || blB (fl l (i - 1))) := by unfold okB pcB; rw [if_neg (by simp [hsf]), if_neg h58, if_pos h35]
    rw [hr]
    have H35 : Hid (((rn l i).1 == 35) = true) := beq_iff_eq.2 h35
    clear hr hsf h58 h35 hrb
    by_cases he : i = start
    · have he' : ((i : Int) != (start : Int)) = false := by simp [he]
      rw [decide_eq_true he, Bool.true_or]
      have He := hide he
      clear he h
      go_enter Tryd.func16, Tryd.ntmps16
      go_wp2_with fail
      refine (zzDecode_rn H.out cap i hi hn).mono ?_
      rintro e w' ⟨rfl, m, rfl⟩
      have hs := Hs.out
      have h58 := H58.out
      have h35 := H35.out
      go_wp2_with (go_at_call 19; refine (zzSafe_any _ _ _).mono ?_; rintro e w'' ⟨rfl, rfl⟩)
      go_ret
      exact ⟨rfl, m, rfl⟩
    · rw [decide_eq_false he, Bool.false_or]
      obtain ⟨q, rfl⟩ : ∃ q, i = q + 1 := ⟨i - 1, by omega⟩
      have he' : ((q : Int) + 1 != (start : Int)) = true := by rw [bne_iff_ne]; omega
      have hcq := h q (by omega)
      have hq' : (q : Int) < l.length := by omega
      simp only [Nat.add_sub_cancel]
      have He := hide he
      clear he h
      go_enter Tryd.func16, Tryd.ntmps16
      go_wp2_with fail
      refine (zzDecode_rn H.out cap (q + 1) hi hn).mono ?_
      rintro e w' ⟨rfl, m, rfl⟩
      have hs := Hs.out
      have h58 := H58.out
      have h35 := H35.out
      go_wp2_with (first | (go_at_call 19; refine (zzSafe_any _ _ _).mono ?_; rintro e w'' ⟨rfl, rfl⟩) | (go_at_call 14; refine (zzBlank_any _ _).mono ?_; rintro e w'' ⟨rfl, rfl⟩))
      go_ret
      exact ⟨rfl, m, rfl⟩
  · have hr : okB l start i flow = true := by unfold okB pcB; rw [if_neg (by simp [hsf]), if_neg h58, if_neg h35]
    rw [hr]
    have H35 : Hid (((rn l i).1 == 35) = false) := beq_eq_false_iff_ne.2 h35
    clear hr hsf h58 h35 hrb h
    go_enter Tryd.func16, Tryd.ntmps16
    go_wp2_with fail
    refine (zzDecode_rn H.out cap i hi hn).mono ?_
    rintro e w' ⟨rfl, m, rfl⟩
    have hs := Hs.out
    have h58 := H58.out
    have h35 := H35.out
    go_wp2_with (go_at_call 19; refine (zzSafe_any _ _ _).mono ?_; rintro e w'' ⟨rfl, rfl⟩)
    go_ret
    exact ⟨rfl, m, rfl⟩
end Go.Proofs.Qxb6615043aDoor
