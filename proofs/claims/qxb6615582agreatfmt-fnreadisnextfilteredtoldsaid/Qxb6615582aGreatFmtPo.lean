/-
  The law's two arguments, read out of memory.
-/
import Derived.Test.Qxb6615582aGreatFmtPc
import Derived.Test.Qxb6615582aGreatFmtLw5
namespace Go.Proofs.Qxb6615582aGreatFmt
open Go.ChangeShapes Go.WideShapes Go.ChangeAt Go.RowKit

/-- A slice of bytes that came in. -/
theorem open_bytes {H : Type} {enc : TypeId × Value → H} {W : World} {a : Option Addr} {len cap : Nat} {d : DataW H} {p : List MemPlace} (h : DataW.Trod enc Tryz.prog W 0 (fun _ => true) true 22 (.slice a len cap) d p) :
    ∃ D : Bs, D.length = len ∧ Tx W a D ∧ (a = none → cap = 0) ∧ len ≤ 9223372036854775807 := by
  obtain ⟨fuel, hf⟩ := h
  rcases open_ints Tryz.underlying22 Tryz.underlying5 (by kernel_rfl) hf with ⟨hcs, _⟩ | ⟨x, l, c, zs, hcs, _, hl, hm, hz, _, hcell, hwz⟩
  · simp [Value.cells] at hcs
    obtain ⟨rfl, rfl, rfl⟩ := hcs
    exact ⟨[], rfl, fun h => absurd rfl h, fun _ => rfl, by omega⟩
  · simp [Value.cells] at hcs
    obtain ⟨rfl, rfl, rfl⟩ := hcs
    have hz' : zs.length = cap := by simpa using hz
    refine ⟨(zs.take len).map fun z => UInt8.ofNat z.toNat, by simp; omega, fun hn => ?_, (fun e => by cases e), by unfold maxLen at hm; omega⟩
    have hpos : 0 < len := by
      rcases Nat.eq_zero_or_pos len with e | e
      · subst e; simp at hn
      · exact e
    obtain ⟨b, off, spot⟩ := x
    have hc0 := hcell 0 (by omega)
    have hspot : spot = none := by simpa [Addr.add] using World.cell?_spot hc0
    subst hspot
    have hbn : b < W.heap.size := by
      have := World.block_lt_of_cell? _ _ hc0
      rwa [add_none] at this
    refine ⟨b, off, rfl, hbn, fun j hj => ?_⟩
    have hj' : j < len := by simp at hj; omega
    have hcj := hcell j (by omega)
    rw [add_none] at hcj
    rw [hcj]
    have hjz : j < zs.length := by omega
    have hmem : zs.getD j 0 ∈ zs := by
      rw [List.getD, List.getElem?_eq_getElem hjz]; exact List.getElem_mem hjz
    have hb := bounds_u8 (hwz _ hmem)
    have e : ((zs.take len).map fun z => UInt8.ofNat z.toNat)[j] = UInt8.ofNat (zs.getD j 0).toNat := by
      simp [List.getD, List.getElem?_eq_getElem hjz]
    rw [e]
    simp only [UInt8.toNat_ofNat']
    congr 2
    omega
/-- A slice of strings that came in. -/
theorem open_cols {H : Type} {enc : TypeId × Value → H} {W : World} {a : Option Addr} {len cap : Nat} {d : DataW H} {p : List MemPlace} (h : DataW.Trod enc Tryz.prog W 0 (fun _ => true) true 23 (.slice a len cap) d p) :
    ∃ cs : List ByteArray, cs.length = len ∧ Sv W a cs ∧ (a = none → cap = 0) ∧ len ≤ 9223372036854775807 ∧ ∀ s ∈ cs, s.size ≤ 9223372036854775807 := by
  obtain ⟨fuel, hf⟩ := h
  rcases Deep.open_strs Tryz.underlying23 Tryz.underlying9 (by kernel_rfl) hf with ⟨hcs, _⟩ | ⟨x, l, c, m, Sx, hcs, _, hl, hm, hmm, _, hcell⟩
  · simp [Value.cells] at hcs
    obtain ⟨rfl, rfl, rfl⟩ := hcs
    exact ⟨[], rfl, fun k h => absurd h (Nat.not_lt_zero _), fun _ => rfl, by omega, fun s hs => by cases hs⟩
  · simp [Value.cells] at hcs
    obtain ⟨rfl, rfl, rfl⟩ := hcs
    have hmc : m = cap := by simpa using hmm
    refine ⟨(List.range len).map Sx, by simp, fun k hk => ?_, (fun e => by cases e), by unfold maxLen at hm; omega, fun s hs => ?_⟩
    · have hk' : k < len := by simpa using hk
      have hck := (hcell k (by omega)).1
      obtain ⟨b, off, spot⟩ := x
      have hspot : spot = none := by
        have := World.cell?_spot (hcell 0 (by omega)).1
        simpa [Addr.add] using this
      subst hspot
      rw [add_none] at hck
      exact ⟨b, off, rfl, by rw [hck]; simp⟩
    · obtain ⟨i, hi, rfl⟩ := List.mem_map.1 hs
      have hi' := List.mem_range.1 hi
      have := (hcell i (by omega)).2
      unfold maxLen at this
      exact this

theorem Kp.belowF {w w' : World} (h : Kp (fun _ => False) w w') : Below w.heap.size w w' := ⟨h.os, h.tape, h.output, h.size, fun k hk => h.block k hk (fun e => e)⟩
end Go.Proofs.Qxb6615582aGreatFmt
