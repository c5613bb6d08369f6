import Derived.Test.Qxb6615582aGreatFmtCl
namespace Go.Proofs.Qxb6615582aGreatFmt
open Go.RowKit

/-- The model's fields, as strings. -/
theorem Acc.sv {w0 w : World} {v : Value} {fs : List Bs} (h : Acc w0 w 9 v (scs fs)) : ∃ ao cap, v = .slice ao (fsb fs).length cap ∧ Sv w ao (fsb fs) ∧ ∀ b o, ao = some ⟨b, o, none⟩ → w0.heap.size ≤ b ∧ b < w.heap.size := by
  obtain ⟨h1, h2⟩ := h.own
  rcases h2 with ⟨e, h0⟩ | ⟨g, cap, cur, e, hg, hb, hn, hm, hs, ht⟩
  · have hf : fs = [] := by rw [scs_length] at h0; exact List.eq_nil_of_length_eq_zero h0
    subst hf
    exact ⟨none, 0, e, fun k hk => absurd hk (Nat.not_lt_zero _), fun b o e => by cases e⟩
  · refine ⟨_, cap, by rw [e, scs_length, fsb_length], fun k hk => ⟨g, 0, rfl, ?_⟩, fun b o e2 => ?_⟩
    · rw [fsb_length] at hk
      rw [Nat.zero_add]
      have := h.own.cells (g := g) (by rw [e]; rfl) k (.string ⟨fs[k].toArray⟩) (by simp [scs, hk])
      rw [add_none, Nat.zero_add] at this
      rw [this]
      simp [fsb]
    · cases e2
      exact ⟨hg, (Array.getElem?_eq_some_iff.1 hb).1⟩
theorem Acc.tx {w0 w : World} {v : Value} {t : Bs} (h : Acc w0 w 5 v (bcs t)) : ∃ ao cap, v = .slice ao t.length cap ∧ Tx w ao t ∧ t.length ≤ cap ∧ cap ≤ 9223372036854775807 ∧ ∀ b o, ao = some ⟨b, o, none⟩ → w0.heap.size ≤ b ∧ b < w.heap.size := by
  obtain ⟨h1, h2⟩ := h.own
  rcases h2 with ⟨e, h0⟩ | ⟨g, cap, cur, e, hg, hb, hn, hm, hs, ht⟩
  · have hf : t = [] := by rw [bcs_length] at h0; exact List.eq_nil_of_length_eq_zero h0
    subst hf
    exact ⟨none, 0, e, fun hn => absurd rfl hn, Nat.le_refl _, by omega, fun b o e => by cases e⟩
  · rw [bcs_length] at hn
    refine ⟨_, cap, by rw [e, bcs_length], fun _ => ⟨g, 0, rfl, (Array.getElem?_eq_some_iff.1 hb).1, fun j hj => ?_⟩, hn, by unfold maxLen at hm; exact hm, fun b o e2 => ?_⟩
    · rw [Nat.zero_add]
      have := h.own.cells (g := g) (by rw [e]; rfl) j (.int .u8 t[j].toNat) (bcs_at t hj)
      rw [add_none, Nat.zero_add] at this
      exact this
    · cases e2
      exact ⟨hg, (Array.getElem?_eq_some_iff.1 hb).1⟩
theorem Tx.keptF {w w' : World} {ao : Option Addr} {D : Bs} {F : Nat → Prop} (h : Tx w ao D) (hk : Kp F w w') (hF : ∀ b o, ao = some ⟨b, o, none⟩ → ¬ F b) : Tx w' ao D := fun hn => by
  obtain ⟨b, o, h1, h2, h3⟩ := h hn
  exact ⟨b, o, h1, Nat.lt_of_lt_of_le h2 hk.size, fun j hj => by rw [hk.cell (p := ⟨b, o + j, none⟩) h2 (hF b o h1)]; exact h3 j hj⟩
/-- ZZNewReader's answer, its parts laid open. -/
def ZnQ (w : World) (sb : Option Addr) (cols : Value) (cs : List ByteArray) (N : Nat) (ae : Addr) (X : Out × Nat) (v : Value) (b0 b1 b2 : Bool) (l : Int) (c : ByteArray) (b3 b4 b5 : Bool) (w' : World) : Prop :=
  Kp (fun _ => False) w w' ∧
    ((X.1.oc = 1 ∧ v = .pointer none ∧ b0 = false ∧ b1 = false ∧ b2 = false ∧ l = 0 ∧ c = .empty ∧ b3 = false ∧ b4 = false ∧ b5 = false) ∨
     ((X.1.oc = 2 ∨ X.1.oc = 3) ∧ v = .pointer none ∧ b0 = false ∧ b1 = false ∧ b2 = true ∧ l = X.2 ∧ c = .empty ∧ b3 = false ∧ b4 = (X.1.oc == 2) ∧ b5 = (X.1.oc == 3)) ∨
     (X.1.oc = 0 ∧ fsb X.1.fs ≠ cs ∧ v = .pointer none ∧ b0 = false ∧ b1 = false ∧ b2 = true ∧ l = X.2 ∧ c = .empty ∧ b3 = false ∧ b4 = false ∧ b5 = false) ∨
     (X.1.oc = 0 ∧ fsb X.1.fs = cs ∧ b0 = true ∧ b1 = false ∧ b2 = false ∧ l = 0 ∧ c = .empty ∧ b3 = false ∧ b4 = false ∧ b5 = false ∧ ∃ nB T, v = .pointer (some ⟨nB, 0, none⟩) ∧ Rdr w.heap.size w' T nB sb cols X.1.rest X.1.ln N ae))
theorem ZnPost.q {w : World} {sb : Option Addr} {cols : Value} {cs : List ByteArray} {N : Nat} {ae : Addr} {X : Out × Nat} {e : Ending} {w' : World} (h : ZnPost w sb cols cs N ae X e w') : ∃ v b0 b1 b2 l c b3 b4 b5, e = .returned (.tuple #[v, .agg #[.bool b0, .bool b1, .bool b2, .int .i64 l, .string c, .bool b3, .bool b4, .bool b5]]) ∧ ZnQ w sb cols cs N ae X v b0 b1 b2 l c b3 b4 b5 w' := by
  obtain ⟨v, P, rfl, hk, hc⟩ := h
  rcases hc with ⟨h1, h2, h3⟩ | ⟨h1, h2, h3⟩ | ⟨h1, h2, h3, h4⟩ | ⟨h1, h2, h3, h4⟩
  · subst h3
    exact ⟨v, _, _, _, _, _, _, _, _, rfl, hk, .inl ⟨h1, h2, rfl, rfl, rfl, rfl, rfl, rfl, rfl, rfl⟩⟩
  · subst h3
    exact ⟨v, _, _, _, _, _, _, _, _, rfl, hk, .inr (.inl ⟨h1, h2, rfl, rfl, rfl, rfl, rfl, rfl, rfl, rfl⟩)⟩
  · subst h4
    exact ⟨v, _, _, _, _, _, _, _, _, rfl, hk, .inr (.inr (.inl ⟨h1, h2, h3, rfl, rfl, rfl, rfl, rfl, rfl, rfl, rfl⟩))⟩
  · subst h3
    exact ⟨v, _, _, _, _, _, _, _, _, rfl, hk, .inr (.inr (.inr ⟨h1, h2, rfl, rfl, rfl, rfl, rfl, rfl, rfl, rfl, h4⟩))⟩
/-- ZZNext's answer, its parts laid open. -/
def ZxQ (B : Nat) (w : World) (T : Nat → Nat) (nB : Nat) (sb : Option Addr) (cols : Value) (N : Nat) (ae : Addr) (X : Out × Nat) (v : Value) (b0 b1 b2 : Bool) (l : Int) (c : ByteArray) (b3 b4 b5 : Bool) (w' : World) : Prop :=
  ∃ T', Rdr B w' T' nB sb cols X.1.rest X.1.ln (N + 2) ae ∧ Kp (Fa T) w w' ∧ Old w T T' ∧
    ((X.1.oc = 1 ∧ v = .pointer none ∧ b0 = false ∧ b1 = true ∧ b2 = false ∧ l = 0 ∧ c = .empty ∧ b3 = false ∧ b4 = false ∧ b5 = false) ∨
     (X.1.oc = 0 ∧ b0 = true ∧ b1 = false ∧ b2 = false ∧ l = 0 ∧ c = .empty ∧ b3 = false ∧ b4 = false ∧ b5 = false ∧ ∃ lB fv, v = .pointer (some ⟨lB, 0, none⟩) ∧ Blk w' lB 42 #[.int .i64 X.2, fv, cols] ∧ T' lB = 0 ∧ Strs w' T' fv X.1.fs ∧ w.heap.size ≤ lB ∧ Nwv w fv) ∨
     ((X.1.oc = 2 ∨ X.1.oc = 3) ∧ v = .pointer none ∧ b0 = false ∧ b1 = false ∧ b2 = true ∧ l = X.2 ∧ c = .empty ∧ b3 = false ∧ b4 = (X.1.oc == 2) ∧ b5 = (X.1.oc == 3)))
theorem ZxPost.q {B : Nat} {w : World} {T : Nat → Nat} {nB : Nat} {sb : Option Addr} {cols : Value} {N : Nat} {ae : Addr} {X : Out × Nat} {e : Ending} {w' : World} (h : ZxPost B w T nB sb cols N ae X e w') : ∃ v b0 b1 b2 l c b3 b4 b5, e = .returned (.tuple #[v, .agg #[.bool b0, .bool b1, .bool b2, .int .i64 l, .string c, .bool b3, .bool b4, .bool b5]]) ∧ ZxQ B w T nB sb cols N ae X v b0 b1 b2 l c b3 b4 b5 w' := by
  obtain ⟨v, P, T', rfl, hr, hk, ho, hc⟩ := h
  rcases hc with ⟨h1, h2, h3⟩ | ⟨h1, h2, h3⟩ | ⟨h1, h2, h3⟩
  · subst h3
    exact ⟨v, _, _, _, _, _, _, _, _, rfl, T', hr, hk, ho, .inl ⟨h1, h2, rfl, rfl, rfl, rfl, rfl, rfl, rfl, rfl⟩⟩
  · subst h2
    exact ⟨v, _, _, _, _, _, _, _, _, rfl, T', hr, hk, ho, .inr (.inl ⟨h1, rfl, rfl, rfl, rfl, rfl, rfl, rfl, rfl, h3⟩)⟩
  · subst h3
    exact ⟨v, _, _, _, _, _, _, _, _, rfl, T', hr, hk, ho, .inr (.inr ⟨h1, h2, rfl, rfl, rfl, rfl, rfl, rfl, rfl, rfl⟩)⟩

set_option maxRecDepth 100000 in
theorem lineFields_c {w : World} {lB : Nat} {n cv : Value} {ao : Option Addr} {m c : Nat} (h : Blk w lB 42 #[n, .slice ao m c, cv]) : Calls Tryz.prog 21 #[.pointer (some ⟨lB, 0, none⟩)] w fun e w' => e = .returned (.slice ao m c) ∧ w' = w := by
  have h1 : w.cell? ⟨lB, 1, none⟩ = some (.slice ao m c) := h.cell rfl
  clear h
  go_enter Tryz.func21, Tryz.ntmps21
  go_wp2
  go_ret
  exact ⟨rfl, rfl⟩
set_option maxRecDepth 100000 in
theorem lineColumns_c {w : World} {lB : Nat} {n fv : Value} {ao : Option Addr} {m c : Nat} (h : Blk w lB 42 #[n, fv, .slice ao m c]) : Calls Tryz.prog 22 #[.pointer (some ⟨lB, 0, none⟩)] w fun e w' => e = .returned (.slice ao m c) ∧ w' = w := by
  have h1 : w.cell? ⟨lB, 2, none⟩ = some (.slice ao m c) := h.cell rfl
  clear h
  go_enter Tryz.func22, Tryz.ntmps22
  go_wp2
  go_ret
  exact ⟨rfl, rfl⟩
end Go.Proofs.Qxb6615582aGreatFmt
