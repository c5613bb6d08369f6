import Derived.Test.Qxb6615582aGreatFmtZn2
namespace Go.Proofs.Qxb6615582aGreatFmt
open Go.RowKit

theorem nil22 (w : World) : Sem.run Tryz.prog (binOp .eql 22 (.slice none 0 0) (.slice none 0 0)) w = .ok (.bool true) w := by
  have h : ∀ d : Nat, (Op.equalIn (d + 1) 22 (.slice none 0 0) (.slice none 0 0)).run Tryz.prog w = .ok true w := fun d => by
    simp [Op.equalIn, run_underlying Tryz.underlying22]
  simp only [binOp]
  simp [Op.equal, Op.maxDepth, h 9999]
theorem nil23 (w : World) : Sem.run Tryz.prog (binOp .eql 23 (.slice none 0 0) (.slice none 0 0)) w = .ok (.bool true) w := by
  have h : ∀ d : Nat, (Op.equalIn (d + 1) 23 (.slice none 0 0) (.slice none 0 0)).run Tryz.prog w = .ok true w := fun d => by
    simp [Op.equalIn, run_underlying Tryz.underlying23]
  simp only [binOp]
  simp [Op.equal, Op.maxDepth, h 9999]
set_option maxRecDepth 100000 in
theorem cloneB_nil (w : World) : Calls Tryz.prog 9 #[.slice none 0 0] w fun e w' => e = .returned (.slice none 0 0) ∧ w' = w := by
  have h := nil22 w
  go_enter Tryz.func9, Tryz.ntmps9
  go_wp2
  go_ret
  exact ⟨rfl, rfl⟩
set_option maxRecDepth 100000 in
theorem cloneS_nil (w : World) : Calls Tryz.prog 10 #[.slice none 0 0] w fun e w' => e = .returned (.slice none 0 0) ∧ w' = w := by
  have h := nil23 w
  go_enter Tryz.func10, Tryz.ntmps10
  go_wp2
  go_ret
  exact ⟨rfl, rfl⟩
set_option maxRecDepth 100000 in
theorem cloneB_none (w : World) (a : Addr) (cap : Nat) : Calls Tryz.prog 9 #[.slice (some a) 0 cap] w fun e w' => e = .returned (.slice (some ⟨w.heap.size, 0, none⟩) 0 0) ∧ Kp (fun _ => False) w w' ∧ w.heap.size < w'.heap.size := by
  obtain ⟨i5, hi, hz0, hz1, hz2⟩ := info_parts Tryz.info5
  have hmk := run_makeSlice (P := Tryz.prog) w 22 5 i5 _ Tryz.underlying22 hi hz0 .i64 .i64 0 0 (by decide) (by decide) (by simp) (by simp) (by decide)
  obtain ⟨ob, hob⟩ : ∃ ob, ob = Obj.cells (madeCells (Value.cells (.int .u8 0)) ((0 : Int).toNat * i5.size)) 5 := ⟨_, rfl⟩
  rw [← hob] at hmk
  have hmk2 : Sem.run Tryz.prog (Instr.makeSlice 22 (.int .i64 0) (.int .i64 0)) w = .ok (.slice (some ⟨w.heap.size, 0, none⟩) 0 0) (w.alloc ob) := hmk
  have hnn := nn22 a 0 cap w
  clear hmk hob
  go_enter Tryz.func9, Tryz.ntmps9
  go_wp2_with fail
  go_loopg [4] 0 (fun gk s4 wr => s4 = .int .i64 0 ∧ wr = w.alloc ob)
  case atStart => exact ⟨rfl, rfl⟩
  case round =>
    obtain ⟨rfl, rfl⟩ := hrel
    go_wp2
    go_ret
    exact ⟨rfl, (Kp.refl _ w).alloc _, by simp⟩
set_option maxRecDepth 100000 in
theorem cloneS_none (w : World) (a : Addr) (cap : Nat) : Calls Tryz.prog 10 #[.slice (some a) 0 cap] w fun e w' => e = .returned (.slice (some ⟨w.heap.size, 0, none⟩) 0 0) ∧ Kp (fun _ => False) w w' ∧ w.heap.size < w'.heap.size := by
  obtain ⟨i5, hi, hz0, hz1, hz2⟩ := info_parts Tryz.info9
  have hmk := run_makeSlice (P := Tryz.prog) w 23 9 i5 _ Tryz.underlying23 hi hz0 .i64 .i64 0 0 (by decide) (by decide) (by simp) (by simp) (by decide)
  obtain ⟨ob, hob⟩ : ∃ ob, ob = Obj.cells (madeCells (Value.cells (.string .empty)) ((0 : Int).toNat * i5.size)) 9 := ⟨_, rfl⟩
  rw [← hob] at hmk
  have hmk2 : Sem.run Tryz.prog (Instr.makeSlice 23 (.int .i64 0) (.int .i64 0)) w = .ok (.slice (some ⟨w.heap.size, 0, none⟩) 0 0) (w.alloc ob) := hmk
  have hnn := nn23 a 0 cap w
  clear hmk hob
  go_enter Tryz.func10, Tryz.ntmps10
  go_wp2_with fail
  go_loopg [4] 0 (fun gk s4 wr => s4 = .int .i64 0 ∧ wr = w.alloc ob)
  case atStart => exact ⟨rfl, rfl⟩
  case round =>
    obtain ⟨rfl, rfl⟩ := hrel
    go_wp2
    go_ret
    exact ⟨rfl, (Kp.refl _ w).alloc _, by simp⟩

/-- A copy's place: new, and whole. -/
def Nwp (w w' : World) (ao : Option Addr) : Prop := ∀ b o, ao = some ⟨b, o, none⟩ → w.heap.size ≤ b ∧ b < w'.heap.size
/-- zzCloneBytes. -/
theorem cloneB_u {w : World} {dao : Option Addr} {cap : Nat} {D : Bs} (hD : Tx w dao D) (hl : D.length ≤ 1048576) (hn : dao = none → cap = 0) :
    Calls Tryz.prog 9 #[.slice dao D.length cap] w fun e w' => ∃ ao c, e = .returned (.slice ao D.length c) ∧ Tx w' ao D ∧ D.length ≤ c ∧ c ≤ 9223372036854775807 ∧ Nwp w w' ao ∧ Kp (fun _ => False) w w' := by
  cases dao with
  | none =>
    have hd : D = [] := by
      rcases Classical.em (D = []) with e | e
      · exact e
      · obtain ⟨b, o, h, _⟩ := hD e; cases h
    subst hd
    rw [hn rfl]
    refine (cloneB_nil w).mono ?_
    rintro e w' ⟨rfl, rfl⟩
    exact ⟨none, 0, rfl, hD, Nat.le_refl _, by omega, fun b o e => (by cases e), Kp.refl _ _⟩
  | some a =>
    by_cases hd : D = []
    · subst hd
      refine (cloneB_none w a cap).mono ?_
      rintro e w' ⟨rfl, hk, hlt⟩
      exact ⟨_, 0, rfl, fun h => absurd rfl h, Nat.le_refl _, by omega, fun b o e => by cases e; exact ⟨Nat.le_refl _, hlt⟩, hk⟩
    · obtain ⟨b, o, h1, h2, h3⟩ := hD hd
      cases h1
      refine (cloneB_c (cap := cap) h3 (fun _ => h2) hl).mono ?_
      rintro e w' ⟨rfl, hb, hk⟩
      exact ⟨_, D.length, rfl, fun _ => ⟨w.heap.size, 0, rfl, hb.lt, fun j hj => by rw [Nat.zero_add]; exact hb.byte hj⟩, Nat.le_refl _, by omega, fun b o e => by cases e; exact ⟨Nat.le_refl _, hb.lt⟩, hk⟩
/-- zzCloneStrings. -/
theorem cloneS_u {w : World} {co : Option Addr} {cap : Nat} {ss : List ByteArray} (hS : Sv w co ss) (hl : ss.length ≤ 1048576) (hn : co = none → cap = 0) :
    Calls Tryz.prog 10 #[.slice co ss.length cap] w fun e w' => ∃ ao c, e = .returned (.slice ao ss.length c) ∧ Sv w' ao ss ∧ ss.length ≤ c ∧ Nwp w w' ao ∧ Kp (fun _ => False) w w' := by
  cases co with
  | none =>
    have hd : ss = [] := by
      rcases Classical.em (ss = []) with e | e
      · exact e
      · obtain ⟨b, o, h, _⟩ := hS 0 (List.length_pos_iff.2 e); cases h
    subst hd
    rw [hn rfl]
    refine (cloneS_nil w).mono ?_
    rintro e w' ⟨rfl, rfl⟩
    exact ⟨none, 0, rfl, hS, Nat.le_refl _, fun b o e => (by cases e), Kp.refl _ _⟩
  | some a =>
    by_cases hd : ss = []
    · subst hd
      refine (cloneS_none w a cap).mono ?_
      rintro e w' ⟨rfl, hk, hlt⟩
      exact ⟨_, 0, rfl, fun k h => absurd h (Nat.not_lt_zero _), Nat.le_refl _, fun b o e => by cases e; exact ⟨Nat.le_refl _, hlt⟩, hk⟩
    · obtain ⟨b, o, h1, h2⟩ := hS 0 (List.length_pos_iff.2 hd)
      cases h1
      refine (cloneS_c (cap := cap) (b := b) (o := o) (fun j hj => ?_) (fun _ => lt_of_cell h2) hl).mono ?_
      · obtain ⟨b', o', e, h⟩ := hS j hj
        cases e
        exact h
      rintro e w' ⟨rfl, hb, hk⟩
      refine ⟨_, ss.length, rfl, fun k hk2 => ⟨w.heap.size, 0, rfl, ?_⟩, Nat.le_refl _, fun b o e => by cases e; exact ⟨Nat.le_refl _, hb.lt⟩, hk⟩
      rw [Nat.zero_add]
      exact hb.cell (by simp [hk2])
end Go.Proofs.Qxb6615582aGreatFmt
