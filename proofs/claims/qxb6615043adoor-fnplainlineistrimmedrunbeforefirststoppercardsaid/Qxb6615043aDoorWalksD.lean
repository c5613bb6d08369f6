import Derived.Test.Qxb6615043aDoorWalksC
import Derived.Test.Qxb6615043aDoorPlain2
import Derived.Test.Qxb6615043aDoorShelf
namespace Go.Proofs.Qxb6615043aDoor
open Go.RowKit

theorem hide {p : Prop} (h : p) : Hid p := h
/-- What is known of the parser at block pb, its text l laid at a, its place at pos. -/
structure PA (w : World) (pb : Nat) (a : Option Addr) (l : List UInt8) (pos : Nat) : Prop where
  src : w.cell? ⟨pb, 0, none⟩ = some (.slice a l.length l.length)
  pos : w.cell? ⟨pb, 2, none⟩ = some (.int .i64 pos)
  frz : w.frozen? ⟨pb, 2, none⟩ = false
  siz : pb < w.heap.size
  big : 2 ≤ pb
  byt : l.length ≠ 0 → ∃ cb, a = some ⟨cb, 0, none⟩ ∧ cb < pb ∧ ∀ j, j < l.length → w.cell? ⟨cb, j, none⟩ = some (.int .u8 (fl l j))
  tab : Lib.Utf8Tabs 0 1 w
  len : l.length ≤ 1048576

theorem byt_at {w : World} {pb : Nat} {a : Option Addr} {l : List UInt8} {pos : Nat} (h : PA w pb a l pos) {i : Nat} (hi : i < l.length) :
    ∃ cb, a = some ⟨cb, 0, none⟩ ∧ w.cell? ⟨cb, i, none⟩ = some (.int .u8 (fl l i)) := by
  obtain ⟨cb, e, _, hc⟩ := h.byt (by omega)
  exact ⟨cb, e, hc i hi⟩

set_option maxRecDepth 100000 in
set_option maxHeartbeats 400000 in
theorem peekAt_any {w : World} {pb : Nat} {a : Option Addr} {l : List UInt8} {pos : Nat} (h : PA w pb a l pos) (i : Nat) :
    Calls Tryd.prog 25 #[.pointer (some ⟨pb, 0, none⟩), .int .i64 i] w fun e w' => e = .returned (.int .u8 (fl l i)) ∧ w = w' := by
  have hs := h.src
  by_cases hi : i < l.length
  · obtain ⟨cb, rfl, hc⟩ := byt_at h hi
    clear h
    have hi' : (i : Int) < l.length := by omega
    go_enter Tryd.func25, Tryd.ntmps25
    go_wp2
    go_ret
    exact ⟨rfl, rfl⟩
  · rw [fl_out (by omega)]
    clear h
    have hi' : (l.length : Int) ≤ i := by omega
    go_enter Tryd.func25, Tryd.ntmps25
    go_wp2
    go_ret
    exact ⟨rfl, rfl⟩

theorem decodeRune_any (s : ByteArray) (b off cap : Nat) (w : World) (hT : Lib.Utf8Tabs 0 1 w)
    (hp : ∀ j, j < s.size → w.cell? ⟨b, off + j, none⟩ = some (.int .u8 (s.get! j).toNat)) :
    Calls Tryd.prog 28 #[.slice (some ⟨b, off, none⟩) s.size cap] w fun e w' => e = .returned (.tuple #[.int .i32 (Lib.decodeGo s).1, .int .i64 (Lib.decodeGo s).2]) ∧ Below w.heap.size w w' :=
  Any7.utf8_DecodeRune Tryd.lays32 s b off cap w hT hp

theorem get_drop (l : List UInt8) (i j : Nat) : ((ByteArray.mk (l.drop i).toArray).get! j).toNat = fl l (i + j) := by
  unfold fl
  have e : (ByteArray.mk (l.drop i).toArray).get! j = (l.drop i).toArray[j]! := rfl
  rw [e]
  simp [List.getD, List.getElem!_eq_getElem?_getD]
  rfl

theorem decodeRune_at {w : World} {cb : Nat} {l : List UInt8} {i : Nat} (hi : i < l.length) (hT : Lib.Utf8Tabs 0 1 w)
    (hc : ∀ j, j < l.length → w.cell? ⟨cb, j, none⟩ = some (.int .u8 (fl l j))) :
    Calls Tryd.prog 28 #[.slice (some ⟨cb, i, none⟩) (l.length - i) (l.length - i)] w fun e w' => e = .returned (.tuple #[.int .i32 (rn l i).1, .int .i64 (rn l i).2]) ∧ Below w.heap.size w w' := by
  have hz : (ByteArray.mk (l.drop i).toArray).size = l.length - i := by simp [ByteArray.size]
  have h := decodeRune_any (ByteArray.mk (l.drop i).toArray) cb i (l.length - i) w hT (fun j hj => by
    rw [get_drop]; exact hc (i + j) (by omega))
  have e : Lib.decodeGo (ByteArray.mk (l.drop i).toArray) = dec l.length (fl l) i := by
    unfold Lib.decodeGo dec
    rw [if_neg (by omega), Lib.decode_at, get_drop, get_drop, get_drop, get_drop, hz]
    simp
  rw [e, hz] at h
  unfold rn
  rw [if_pos hi]
  exact h

set_option maxRecDepth 100000 in
set_option maxHeartbeats 400000 in
theorem runeAt_any {w : World} {pb : Nat} {a : Option Addr} {l : List UInt8} {pos : Nat} (h : PA w pb a l pos) (i : Nat) :
    Calls Tryd.prog 23 #[.pointer (some ⟨pb, 0, none⟩), .int .i64 i] w fun e w' => e = .returned (.tuple #[.int .i32 (rn l i).1, .int .i64 (rn l i).2]) ∧ Below w.heap.size w w' := by
  have hs := h.src
  by_cases hi : i < l.length
  · obtain ⟨cb, rfl, _, hc⟩ := h.byt (by omega)
    have hT := h.tab
    clear h
    have hci := hc i hi
    have hi' : (i : Int) < l.length := by omega
    by_cases ha : fl l i < 128
    · have ha' : (fl l i : Int) < 128 := by omega
      have e : rn l i = ((fl l i : Int), 1) := by simp [rn, hi, dec, Lib.decodeN, ha]
      rw [e]
      go_enter Tryd.func23, Tryd.ntmps23
      go_wp2
      go_ret2
      exact ⟨rfl, Below.refl _ _⟩
    · have ha' : ¬ (fl l i : Int) < 128 := by omega
      have hcall := decodeRune_at hi hT hc
      have H := hide hcall
      clear hcall hc hT
      go_enter Tryd.func23, Tryd.ntmps23
      go_wp2_with fail
      refine H.out.mono ?_
      rintro e w' ⟨rfl, hb⟩
      go_wp2
      go_ret2
      exact ⟨rfl, hb⟩
  · have e : rn l i = (-1, 0) := by simp [rn, hi]
    rw [e]
    clear h
    have hi' : (l.length : Int) ≤ i := by omega
    go_enter Tryd.func23, Tryd.ntmps23
    go_wp2
    go_ret2
    exact ⟨rfl, Below.refl _ _⟩

theorem PA.later {w w' : World} {pb : Nat} {a : Option Addr} {l : List UInt8} {pos : Nat} (h : PA w pb a l pos) (hb : Below w.heap.size w w') : PA w' pb a l pos where
  src := by rw [hb.cell (p := ⟨pb, 0, none⟩) h.siz]; exact h.src
  pos := by rw [hb.cell (p := ⟨pb, 2, none⟩) h.siz]; exact h.pos
  frz := by rw [hb.frozen (p := ⟨pb, 2, none⟩) h.siz]; exact h.frz
  siz := Nat.lt_of_lt_of_le h.siz hb.size
  big := h.big
  byt := fun hl => by
    obtain ⟨cb, e, hlt, hc⟩ := h.byt hl
    exact ⟨cb, e, hlt, fun j hj => by rw [hb.cell (p := ⟨cb, j, none⟩) (Nat.lt_trans hlt h.siz)]; exact hc j hj⟩
  tab := by
    have h2 : 2 ≤ w.heap.size := Nat.le_of_lt (Nat.lt_of_le_of_lt h.big h.siz)
    refine ⟨fun c hc => ?_, fun i hi => ⟨?_, ?_⟩⟩
    · rw [hb.cell (p := ⟨0, c, none⟩) (by show 0 < _; omega)]; exact h.tab.1 c hc
    · rw [hb.cell (p := ⟨1, 2 * i, none⟩) (by show 1 < _; omega)]; exact (h.tab.2 i hi).1
    · rw [hb.cell (p := ⟨1, 2 * i + 1, none⟩) (by show 1 < _; omega)]; exact (h.tab.2 i hi).2
  len := h.len

set_option maxRecDepth 100000 in
set_option maxHeartbeats 400000 in
theorem plainSafe_any {w : World} {pb : Nat} {a : Option Addr} {l : List UInt8} {pos : Nat} (h : PA w pb a l pos) (i : Nat) (c : Int) :
    Calls Tryd.prog 27 #[.pointer (some ⟨pb, 0, none⟩), .int .i64 i, .int .i64 c] w fun e w' => e = .returned (.bool (safeB (rn l i).1 (flowB c))) ∧ Below w.heap.size w w' := by
  have H := hide h
  clear h
  go_enter Tryd.func27, Tryd.ntmps27
  go_wp2_with fail
  refine (runeAt_any H.out i).mono ?_
  rintro e w' ⟨rfl, hb⟩
  go_wp2_with (go_at_call 26; refine (plainSafeRune_any _ _ _ _).mono ?_; rintro e w'' ⟨rfl, rfl⟩)
  go_ret
  exact ⟨rfl, hb⟩

set_option maxRecDepth 100000 in
set_option maxHeartbeats 1000000 in
theorem plainChar_any {w : World} {pb : Nat} {a : Option Addr} {l : List UInt8} {pos : Nat} (h : PA w pb a l pos) (i : Nat) (hi : i ≤ l.length) (c : Int) (aw : Bool) :
    Calls Tryd.prog 22 #[.pointer (some ⟨pb, 0, none⟩), .int .i64 i, .int .i64 c, .bool aw] w fun e w' => e = .returned (.bool (pcB l i (flowB c) aw)) ∧ Below w.heap.size w w' := by
  have hl := h.len
  have hz : i + (rn l i).2 ≤ 1048576 := by
    unfold rn
    split
    · have := dec_bd l.length (fl l) i (by assumption) (fl_lt l); simp only; omega
    · simp only; omega
  have H := hide h
  clear h
  cases hs : safeB (rn l i).1 (flowB c)
  · have hr : pcB l i (flowB c) aw = false := by simp [pcB, hs]
    rw [hr]
    clear hr
    go_enter Tryd.func22, Tryd.ntmps22
    go_wp2_with fail
    refine (runeAt_any H.out i).mono ?_
    rintro e w' ⟨rfl, hb⟩
    go_wp2_with (go_at_call 26; refine (plainSafeRune_any _ _ _ _).mono ?_; rintro e w'' ⟨rfl, rfl⟩)
    go_ret
    exact ⟨rfl, hb⟩
  by_cases h58 : (rn l i).1 = 58
  · have hr : pcB l i (flowB c) aw = safeB (rn l (i + (rn l i).2)).1 (flowB c) := by unfold pcB; rw [if_neg (by simp [hs]), if_pos h58]
    rw [hr]
    clear hr
    have h58' : ((rn l i).1 == 58) = true := beq_iff_eq.2 h58
    have H58' := hide h58'
    have Hs := hide hs
    clear h58 h58' hs
    go_enter Tryd.func22, Tryd.ntmps22
    go_wp2_with fail
    refine (runeAt_any H.out i).mono ?_
    rintro e w' ⟨rfl, hb⟩
    have hs := Hs.out
    have h58' := H58'.out
    go_wp2_with (go_at_call 26; refine (plainSafeRune_any _ _ _ _).mono ?_; rintro e w'' ⟨rfl, rfl⟩)
    rw [show ((i : Int) + ((rn l i).2 : Int)) = ((i + (rn l i).2 : Nat) : Int) from by omega]
    refine (plainSafe_any (H.out.later hb) _ c).mono ?_
    rintro e w3 ⟨rfl, hb3⟩
    go_wp2
    go_ret
    exact ⟨rfl, hb.trans (hb3.mono hb.size)⟩
  have h58' : ((rn l i).1 == 58) = false := beq_eq_false_iff_ne.2 h58
  by_cases h35 : (rn l i).1 = 35
  · have hr : pcB l i (flowB c) aw = !aw := by unfold pcB; rw [if_neg (by simp [hs]), if_neg h58, if_pos h35]
    rw [hr]
    clear hr
    have h35' : ((rn l i).1 == 35) = true := beq_iff_eq.2 h35
    have H35' := hide h35'
    have H58' := hide h58'
    have Hs := hide hs
    clear hs h58' h35' h58 h35
    go_enter Tryd.func22, Tryd.ntmps22
    go_wp2_with fail
    refine (runeAt_any H.out i).mono ?_
    rintro e w' ⟨rfl, hb⟩
    have hs := Hs.out
    have h58' := H58'.out
    have h35' := H35'.out
    go_wp2_with (go_at_call 26; refine (plainSafeRune_any _ _ _ _).mono ?_; rintro e w'' ⟨rfl, rfl⟩)
    go_ret
    exact ⟨rfl, hb⟩
  · have hr : pcB l i (flowB c) aw = true := by unfold pcB; rw [if_neg (by simp [hs]), if_neg h58, if_neg h35]
    rw [hr]
    clear hr
    have h35' : ((rn l i).1 == 35) = false := beq_eq_false_iff_ne.2 h35
    have H35' := hide h35'
    have H58' := hide h58'
    have Hs := hide hs
    clear hs h58' h35' h58 h35
    go_enter Tryd.func22, Tryd.ntmps22
    go_wp2_with fail
    refine (runeAt_any H.out i).mono ?_
    rintro e w' ⟨rfl, hb⟩
    have hs := Hs.out
    have h58' := H58'.out
    have h35' := H35'.out
    go_wp2_with (go_at_call 26; refine (plainSafeRune_any _ _ _ _).mono ?_; rintro e w'' ⟨rfl, rfl⟩)
    go_ret
    exact ⟨rfl, hb⟩
end Go.Proofs.Qxb6615043aDoor
