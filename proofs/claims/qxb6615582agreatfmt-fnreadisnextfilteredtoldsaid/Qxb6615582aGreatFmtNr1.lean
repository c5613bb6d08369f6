import Derived.Test.Qxb6615582aGreatFmtLw8
import Derived.Test.Qxb6615582aGreatFmtPt2
import Derived.Laws.OwnMore
namespace Go.Proofs.Qxb6615582aGreatFmt
open Go.RowKit

theorem Tryz.zero69 : (Tryz.prog.info? 69).map (·.zero) = some (some (.pointer none)) := by kernel_rfl
theorem ta_bio (v : Value) (w : World) : Sem.run Tryz.prog (Instr.typeAssert (.iface 64 v) 90 69 true) w = .ok (.tuple #[.pointer none, .bool false]) w := by
  cases hi : Tryz.prog.info? 69 with
  | none => have := Tryz.zero69; simp [hi] at this
  | some i =>
    have hz : i.zero = some (.pointer none) := by have := Tryz.zero69; simpa [hi] using this
    simp [Instr.typeAssert, run_underlying Tryz.underlying69, typeInfo, zeroValue, hi, hz]

/-- A buffer of noughts. -/
def nz : Array Value := (bcs (List.replicate 4096 0)).toArray
theorem made_nz : madeCells #[(.int .u8 0 : Value)] 4096 = nz := by
  apply Array.ext'
  rw [toList_madeCells_one]
  unfold nz bcs
  rw [List.map_replicate]
  rfl
theorem make_buf (W : World) : Sem.run Tryz.prog (Instr.makeSlice 22 (.int .i64 (max 4096 16)) (.int .i64 (max 4096 16))) W = .ok (.slice (some ⟨W.heap.size, 0, none⟩) 4096 4096) (W.alloc (.cells nz 5)) := by
  obtain ⟨i5, hi, hz0, hz1, hz2⟩ := info_parts Tryz.info5
  have h := run_makeSlice (P := Tryz.prog) W 22 5 i5 _ Tryz.underlying22 hi hz0 .i64 .i64 4096 4096 (by decide) (by decide) (by rw [hz1]; decide) (by rw [hz2]; decide) (by decide)
  rw [show (max 4096 16 : Int) = 4096 by decide, h, hz1, ← made_nz]
  rfl
set_option maxRecDepth 100000 in
set_option maxHeartbeats 2000000 in
/-- csv.NewReader over a reader of bytes. -/
theorem csvNew_c (w : World) (rB : Nat) :
    Calls Tryz.prog 36 #[.iface 64 (.pointer (some ⟨rB, 0, none⟩))] w fun e w' => e = .returned (.pointer (some ⟨w.heap.size + 1 + 1, 0, none⟩)) ∧ w' = ((w.alloc (.cells #[.slice (some ⟨w.heap.size + 1, 0, none⟩) 4096 4096, .iface 64 (.pointer (some ⟨rB, 0, none⟩)), .int .i64 0, .int .i64 0, .nilIface, .int .i64 (-1), .int .i64 (-1)] 158)).alloc (.cells nz 5)).alloc (.cells #[.int .i32 44, .int .i32 0, .int .i64 0, .bool false, .bool false, .bool false, .bool false, .pointer (some ⟨w.heap.size, 0, none⟩), .int .i64 0, .int .i64 0, .slice none 0 0, .slice none 0 0, .slice none 0 0, .slice none 0 0, .slice none 0 0] 73) := by
  have ht := ta_bio (.pointer (some ⟨rB, 0, none⟩))
  have hmk := make_buf
  go_enter Tryz.func36, Tryz.ntmps36
  go_wp2
  go_end0
  simp only []
  go_wp2
  go_ret
  exact ⟨rfl, rfl⟩
/-- What TrimPrefix gives. -/
def TpPost (w : World) (dao : Option Addr) (D : Bs) (e : Ending) (w' : World) : Prop := w' = w ∧ ∃ ao cap, e = .returned (.slice ao (body D).length cap) ∧ Tx w ao (body D) ∧ (body D).length ≤ cap ∧ cap ≤ 9223372036854775807 ∧ (body D ≠ [] → ∀ b o, ao = some ⟨b, o, none⟩ → ∃ o', dao = some ⟨b, o', none⟩)
set_option maxRecDepth 100000 in
set_option maxHeartbeats 2000000 in
theorem trim_c {w : World} {dao : Option Addr} {D : Bs} {cap pb : Nat} (hD : Tx w dao D) (hl : D.length ≤ 1048576) (hc : D.length ≤ cap) (hc2 : cap ≤ 9223372036854775807) (p0 : w.cell? ⟨pb, 0, none⟩ = some (.int .u8 239)) (p1 : w.cell? ⟨pb, 1, none⟩ = some (.int .u8 187)) (p2 : w.cell? ⟨pb, 2, none⟩ = some (.int .u8 191)) :
    Calls Tryz.prog 38 #[.slice dao D.length cap, .slice (some ⟨pb, 0, none⟩) 3 3] w (TpPost w dao D) := by
  obtain ⟨m, hm⟩ : ∃ m, m = D.length := ⟨_, rfl⟩
  have hcv : Sem.run Tryz.prog (convert 22 9 (.slice (some ⟨pb, 0, none⟩) 3 3)) w = .ok (.string ⟨#[239, 187, 191]⟩) w := by
    refine run_convert_bytes_back w 22 9 5 ⟨pb, 0, none⟩ 3 [239, 187, 191] Tryz.underlying22 Tryz.underlying5 Tryz.underlying9 (fun j hj => ?_)
    match j, hj with
    | 0, _ => exact p0
    | 1, _ => exact p1
    | 2, _ => exact p2
  have hl' : (m : Int) ≤ 1048576 := by omega
  by_cases h3 : m < 3
  · have hbd : body D = D := by
      unfold body
      rw [if_neg (by intro e; have := congrArg List.length e; simp at this; omega)]
    have hfin : TpPost w dao D (.returned (.slice dao m cap)) w := ⟨rfl, dao, cap, by rw [hbd, hm], by rw [hbd]; exact hD, by rw [hbd]; exact hc, hc2, fun _ b o e => ⟨o, e⟩⟩
    have Hfin := hide hfin
    rw [← hm]
    have h3' : ¬ (3 : Int) ≤ m := by omega
    clear hD hc hc2 hbd hfin hm h3 hl hcv p0 p1 p2
    go_enter Tryz.func38, Tryz.ntmps38
    go_wp2
    go_ret
    exact Hfin.out
  · obtain ⟨b, o, e1, e2, e3⟩ := hD (by intro e; rw [e] at hm; simp at hm; omega)
    subst e1
    have hlen : (D.take 3).length = 3 := by rw [List.length_take]; omega
    obtain ⟨S, hS⟩ : ∃ S : ByteArray, S = ⟨(D.take 3).toArray⟩ := ⟨_, rfl⟩
    have hs3 : Sem.run Tryz.prog (convert 22 9 (.slice (some ⟨b, o, none⟩) 3 cap)) w = .ok (.string S) w := by
      have := run_convert_bytes_back w 22 9 5 ⟨b, o, none⟩ cap (D.take 3) Tryz.underlying22 Tryz.underlying5 Tryz.underlying9 (fun j hj => by
        rw [hlen] at hj
        rw [add_none, e3 j (by omega), List.getElem_take])
      rw [hlen] at this
      rw [hS]; exact this
    have h3' : (3 : Int) ≤ m := by omega
    have hcap : (3 : Int) ≤ cap := by omega
    have hcap2 : (cap : Int) ≤ 9223372036854775807 := by omega
    have hmc : (m : Int) ≤ cap := by omega
    by_cases hE : D.take 3 = [239, 187, 191]
    · have hS2 : S = ⟨#[239, 187, 191]⟩ := by rw [hS, hE]
      rw [hS2] at hs3
      have hbd : body D = D.drop 3 := by unfold body; rw [if_pos hE]
      have hfin : ∀ x : Option Addr, (cap ≠ 3 → x = some ⟨b, o + 3, none⟩) → TpPost w (some ⟨b, o, none⟩) D (.returned (.slice x (m - 3) (cap - 3))) w := fun x hx => by
        have hle : (D.drop 3).length = m - 3 := by rw [List.length_drop, hm]
        refine ⟨rfl, x, cap - 3, by rw [hbd, hle], ?_, by rw [hbd, hle]; omega, by omega, ?_⟩
        · rw [hbd]
          intro hn
          have hpos : (D.drop 3).length ≠ 0 := fun e => hn (List.eq_nil_of_length_eq_zero e)
          refine ⟨b, o + 3, hx (by omega), e2, fun j hj => ?_⟩
          rw [hle] at hj
          have := e3 (3 + j) (by omega)
          rw [List.getElem_drop, Nat.add_assoc]
          exact this
        · rw [hbd]
          intro hn b' o' e
          have hpos : (D.drop 3).length ≠ 0 := fun e => hn (List.eq_nil_of_length_eq_zero e)
          rw [hx (by omega)] at e
          cases e
          exact ⟨o, rfl⟩
      have Hfin := hide hfin
      rw [← hm]
      clear hD hc hc2 hbd hfin hm h3 hl p0 p1 p2 hS hS2 hE e2 e3 hlen
      by_cases hc3 : cap = 3
      · subst hc3
        go_enter Tryz.func38, Tryz.ntmps38
        go_wp2
        go_ret
        exact Hfin.out _ (fun e => absurd rfl e)
      · go_enter Tryz.func38, Tryz.ntmps38
        go_wp2
        go_ret
        exact Hfin.out _ (fun _ => rfl)
    · have hS2 : (S.toList == [239, 187, 191]) = false := by
        rw [beq_eq_false_iff_ne, hS, Lib.toList_data]
        intro e
        exact hE (by simpa using e)
      have hbd : body D = D := by unfold body; rw [if_neg hE]
      have hfin : TpPost w (some ⟨b, o, none⟩) D (.returned (.slice (some ⟨b, o, none⟩) m cap)) w := ⟨rfl, _, cap, by rw [hbd, hm], by rw [hbd]; exact hD, by rw [hbd]; exact hc, hc2, fun _ b o e => ⟨o, e⟩⟩
      have Hfin := hide hfin
      rw [← hm]
      clear hD hc hc2 hbd hfin hm h3 hl p0 p1 p2 hS hE e2 e3 hlen
      go_enter Tryz.func38, Tryz.ntmps38
      go_wp2
      go_ret
      exact Hfin.out
end Go.Proofs.Qxb6615582aGreatFmt
