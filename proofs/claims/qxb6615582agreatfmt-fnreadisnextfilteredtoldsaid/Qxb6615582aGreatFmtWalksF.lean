import Derived.Test.Qxb6615582aGreatFmtWalksE
import Derived.Test.Qxb6615582aGreatFmtShelf
namespace Go.Proofs.Qxb6615582aGreatFmt
open Go.RowKit

/-- The cells of a text. -/
def Cs (w : World) (b o : Nat) (l : Bs) : Prop := ∀ j (h : j < l.length), w.cell? ⟨b, o + j, none⟩ = some (.int .u8 l[j].toNat)

/-- The next rune. -/
def nr (l : Bs) : Int := ((Lib.decodeGo ⟨l.toArray⟩).1 : Int)
theorem nr_nil : nr [] = 65533 := rfl
theorem nr_low {c : UInt8} {r : Bs} (h : c.toNat < 128) : nr (c :: r) = c.toNat := by
  unfold nr Lib.decodeGo
  rw [if_neg (by show ¬ (c :: r).toArray.size = 0; simp), Lib.decode_at]
  have : (ByteArray.get! ⟨(c :: r).toArray⟩ 0).toNat = c.toNat := rfl
  rw [this]
  simp [Lib.decodeN, h]
theorem decodeN_high {n b0 b1 b2 b3 : Nat} (h : ¬ b0 < 128) : 128 ≤ (Lib.decodeN n b0 b1 b2 b3).1 := by
  unfold Lib.decodeN
  rw [if_neg h]
  repeat' split
  all_goals simp
  all_goals omega
theorem nr_high {c : UInt8} {r : Bs} (h : ¬ c.toNat < 128) : 128 ≤ nr (c :: r) := by
  unfold nr Lib.decodeGo
  rw [if_neg (by show ¬ (c :: r).toArray.size = 0; simp), Lib.decode_at]
  have : (ByteArray.get! ⟨(c :: r).toArray⟩ 0).toNat = c.toNat := rfl
  rw [this]
  have := decodeN_high (n := ByteArray.size ⟨(c :: r).toArray⟩ - 0) (b0 := c.toNat) (b1 := (ByteArray.get! ⟨(c :: r).toArray⟩ (0 + 1)).toNat) (b2 := (ByteArray.get! ⟨(c :: r).toArray⟩ (0 + 2)).toNat) (b3 := (ByteArray.get! ⟨(c :: r).toArray⟩ (0 + 3)).toNat) h
  omega
/-- Of the runes that the reader tells apart. -/
theorem nr_eq {l : Bs} {d : UInt8} (hd : d.toNat < 128) : nr l = d.toNat ↔ l.head? = some d := by
  cases l with
  | nil => rw [nr_nil]; simp; omega
  | cons c r =>
    by_cases h : c.toNat < 128
    · rw [nr_low h]
      simp
      constructor
      · intro e; exact UInt8.toNat_inj.1 (by omega)
      · rintro rfl; rfl
    · have := nr_high (r := r) h
      constructor
      · intro e; omega
      · intro e; simp at e; subst e; omega

theorem decode_c {w : World} {b o cap : Nat} {l : Bs} (hc : Cs w b o l) (hT : Lib.Utf8Tabs 3 4 w) :
    ∃ K : Int, Calls Tryz.prog 83 #[.slice (some ⟨b, o, none⟩) l.length cap] w fun e w' => e = .returned (.tuple #[.int .i32 (nr l), .int .i64 K]) ∧ Below w.heap.size w w' :=
  ⟨_, Any7.utf8_DecodeRune Tryz.lays32 ⟨l.toArray⟩ b o cap w hT (fun j hj => by
    have hj2 : j < l.length := hj
    rw [hc j hj2]
    congr 2
    show (l[j].toNat : Int) = ((l.toArray[j]!).toNat : Int)
    simp [hj2])⟩

set_option maxRecDepth 100000 in
set_option maxHeartbeats 1000000 in
theorem nextRune_c {w : World} {b o cap : Nat} {l : Bs} (hc : Cs w b o l) (hT : Lib.Utf8Tabs 3 4 w) :
    Calls Tryz.prog 67 #[.slice (some ⟨b, o, none⟩) l.length cap] w fun e w' => e = .returned (.int .i32 (nr l)) ∧ Below w.heap.size w w' := by
  obtain ⟨K, hd⟩ := decode_c (cap := cap) hc hT
  have Hd := hide hd
  clear hd hc hT
  go_enter Tryz.func67, Tryz.ntmps67
  go_wp2_with ((go_at_call 83; refine Hd.out.mono ?_; rintro e w' ⟨rfl, hb⟩; have Hb := hide hb; clear hb))
  go_ret
  exact ⟨rfl, Hb.out⟩

/-- How many bytes the newline takes. -/
def lnl (l : Bs) : Nat := if l.getLast? = some 10 then 1 else 0
theorem lnl_le (l : Bs) : lnl l ≤ l.length := by
  unfold lnl
  split
  · next h => cases l with
    | nil => cases h
    | cons c r => simp
  · omega

set_option maxRecDepth 100000 in
set_option maxHeartbeats 1000000 in
theorem lengthNL_c {w : World} {b o cap : Nat} {l : Bs} (hc : Cs w b o l) (hl : l.length ≤ 4294967296) :
    Calls Tryz.prog 68 #[.slice (some ⟨b, o, none⟩) l.length cap] w fun e w' => e = .returned (.int .i64 (lnl l)) ∧ w' = w := by
  rcases List.eq_nil_or_concat l with e | ⟨a, c, e⟩
  · subst e
    go_enter Tryz.func68, Tryz.ntmps68
    go_wp2
    go_ret
    exact ⟨rfl, rfl⟩
  · rw [List.concat_eq_append] at e
    obtain ⟨N, hN⟩ : ∃ N, N = l.length := ⟨_, rfl⟩
    have hNa : N = a.length + 1 := by rw [hN, e]; simp
    have hz : w.cell? ⟨b, o + (N - 1), none⟩ = some (.int .u8 c.toNat) := by
      rw [hc (N - 1) (by omega)]
      have h2 : l[N - 1]? = some c := by rw [e, hNa]; simp
      rw [List.getElem?_eq_getElem (by omega)] at h2
      rw [Option.some.inj h2]
    have hNpos : (0 : Int) < N := by omega
    have hNl : (N : Int) ≤ 4294967296 := by omega
    have Hl : Hid (lnl l = if c = 10 then 1 else 0) := by
      show lnl l = _
      unfold lnl
      rw [e]
      simp
    rw [← hN]
    clear hc hl e hN hNa
    by_cases hc10 : c = 10
    · subst hc10
      have hz' : w.cell? ⟨b, o + (N - 1), none⟩ = some (.int .u8 10) := hz
      clear hz
      go_enter Tryz.func68, Tryz.ntmps68
      go_wp2
      go_ret
      exact ⟨by rw [Hl.out]; rfl, rfl⟩
    · have h10 : ((c.toNat : Int) == 10) = false := by
        rw [beq_eq_false_iff_ne]
        intro e
        exact hc10 (UInt8.toNat_inj.1 (by have : (10 : UInt8).toNat = 10 := rfl; omega))
      have Hc := hide hc10
      clear hc10
      go_enter Tryz.func68, Tryz.ntmps68
      go_wp2
      go_ret
      exact ⟨by rw [Hl.out, if_neg Hc.out]; rfl, rfl⟩

set_option maxRecDepth 100000 in
set_option maxHeartbeats 1000000 in
theorem indexRune_c {w : World} {b o cap : Nat} {l : Bs} (hc : Cs w b o l) :
    Calls Tryz.prog 73 #[.slice (some ⟨b, o, none⟩) l.length cap, .int .i32 44] w fun e w' => e = .returned (.int .i64 (Lib.indexByte l 44)) ∧ w' = w := by
  have Hi := hide (indexByte_c (cap := cap) (c := 44) hc)
  clear hc
  go_enter Tryz.func73, Tryz.ntmps73
  go_wp2_with ((go_at_call 74; refine Hi.out.mono ?_; rintro e w' ⟨rfl, rfl⟩))
  go_ret
  exact ⟨rfl, rfl⟩

set_option maxRecDepth 100000 in
set_option maxHeartbeats 1000000 in
theorem runeLen_c {w : World} : Calls Tryz.prog 69 #[.int .i32 44] w fun e w' => e = .returned (.int .i64 1) ∧ w' = w := by
  go_enter Tryz.func69, Tryz.ntmps69
  go_wp2
  go_ret
  exact ⟨rfl, rfl⟩
set_option maxRecDepth 100000 in
set_option maxHeartbeats 1000000 in
theorem validRune_c {w : World} : Calls Tryz.prog 81 #[.int .i32 44] w fun e w' => e = .returned (.bool true) ∧ w' = w := by
  go_enter Tryz.func81, Tryz.ntmps81
  go_wp2
  go_ret
  exact ⟨rfl, rfl⟩
set_option maxRecDepth 100000 in
set_option maxHeartbeats 1000000 in
theorem validDelim_c {w : World} : Calls Tryz.prog 65 #[.int .i32 44] w fun e w' => e = .returned (.bool true) ∧ w' = w := by
  go_enter Tryz.func65, Tryz.ntmps65
  go_wp2_with ((go_at_call 81; refine validRune_c.mono ?_; rintro e w' ⟨rfl, rfl⟩))
  go_ret
  exact ⟨rfl, rfl⟩
end Go.Proofs.Qxb6615582aGreatFmt
