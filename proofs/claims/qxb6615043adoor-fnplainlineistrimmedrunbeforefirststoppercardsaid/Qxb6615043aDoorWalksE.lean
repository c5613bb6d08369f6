import Derived.Test.Qxb6615043aDoorWalksD
import Derived.Test.Qxb6615043aDoorPlain3
import Derived.LoopTactic
namespace Go.Proofs.Qxb6615043aDoor
open Go.RowKit

def posOf (w : World) (pb : Nat) : Nat := match w.cell? ⟨pb, 2, none⟩ with | some (.int _ n) => n.toNat | _ => 0
theorem PA.posOf {w : World} {pb : Nat} {a : Option Addr} {l : List UInt8} {pos : Nat} (h : PA w pb a l pos) : posOf w pb = pos := by
  unfold Qxb6615043aDoor.posOf; rw [h.pos]; simp

/-- The place is moved on. -/
theorem PA.move {w : World} {pb : Nat} {a : Option Addr} {l : List UInt8} {pos : Nat} (h : PA w pb a l pos) (q : Nat) : PA (w.setCell ⟨pb, 2, none⟩ (.int .i64 q)) pb a l q where
  src := by rw [World.cell?_setCell_other _ _ _ _ (by simp)]; exact h.src
  pos := World.cell?_setCell_same _ _ _ h.pos
  frz := by rw [World.frozen?_setCell]; exact h.frz
  siz := by rw [World.size_setCell]; exact h.siz
  big := h.big
  byt := fun hl => by
    obtain ⟨cb, e, hlt, hc⟩ := h.byt hl
    exact ⟨cb, e, hlt, fun j hj => by rw [World.cell?_setCell_other _ _ _ _ (fun h => by injection h; omega)]; exact hc j hj⟩
  tab := by
    have := h.big
    refine ⟨fun c hc => ?_, fun i hi => ⟨?_, ?_⟩⟩
    · rw [World.cell?_setCell_other _ _ _ _ (fun h => by injection h; omega)]; exact h.tab.1 c hc
    · rw [World.cell?_setCell_other _ _ _ _ (fun h => by injection h; omega)]; exact (h.tab.2 i hi).1
    · rw [World.cell?_setCell_other _ _ _ _ (fun h => by injection h; omega)]; exact (h.tab.2 i hi).2
  len := h.len

set_option maxRecDepth 100000 in
set_option maxHeartbeats 400000 in
theorem skipWhite_any {w : World} {pb : Nat} {a : Option Addr} {l : List UInt8} {pos : Nat} (h : PA w pb a l pos) (hp : pos ≤ l.length) :
    Calls Tryd.prog 21 #[.pointer (some ⟨pb, 0, none⟩)] w fun e w' => e = .returned (.bool (decide (pos < sk l pos))) ∧ PA w' pb a l (sk l pos) ∧ Below pb w w' := by
  have hc := h.pos
  have H := hide h
  clear h
  go_enter Tryd.func21, Tryd.ntmps21
  go_wp2
  go_loopw [] (fun wr => ∃ k : Nat, pos ≤ k ∧ k ≤ l.length ∧ Hid (sk l k = sk l pos) ∧ Hid (PA wr pb a l k) ∧ Hid (Below pb w wr)) (fun wr => l.length + 1 - posOf wr pb)
  case atStart => exact ⟨pos, Nat.le_refl _, hp, rfl, H, Below.refl _ _⟩
  case round =>
    obtain ⟨k, hk1, hk2, hs, hP, hB⟩ := hrel
    have hpc := hP.out.pos
    have hfz := hP.out.frz
    have hlen := hP.out.len
    cases hb : blB (fl l k)
    · have hsk := hide (sk_no hb)
      have Hb := hide hb
      clear hb
      go_wp2_with fail
      refine (peekAt_any hP.out k).mono ?_
      rintro e w' ⟨rfl, rfl⟩
      have hb := Hb.out
      go_wp2_with (go_at_call 24; refine (isWhite_any _ _).mono ?_; rintro e w'' ⟨rfl, rfl⟩)
      go_ret
      rw [← hs.out, hsk.out]
      exact ⟨rfl, hP, hB⟩
    · have hsk := hide (sk_yes hb)
      have hlt := bl_lt hb
      have Hb := hide hb
      clear hb
      go_wp2_with fail
      refine (peekAt_any hP.out k).mono ?_
      rintro e w' ⟨rfl, rfl⟩
      have hb := Hb.out
      go_wp2_with (go_at_call 24; refine (isWhite_any _ _).mono ?_; rintro e w'' ⟨rfl, rfl⟩)
      go_roundw
      case rel => exact ⟨k + 1, by omega, by omega, hsk.out.symm.trans hs.out, hP.out.move (k + 1), hB.out.setCell (Nat.le_refl _) _⟩
      case measure =>
        show l.length + 1 - posOf (w''.setCell ⟨pb, 2, none⟩ (.int .i64 ((k + 1 : Nat) : Int))) pb < l.length + 1 - posOf w'' pb
        rw [(hP.out.move (k + 1)).posOf, hP.out.posOf]
        omega
end Go.Proofs.Qxb6615043aDoor
