import Derived.Test.Qxb6615582aGreatFmtLo
import Derived.Laws.IdiomStrings
import Derived.Laws.BytesArg
namespace Go.Proofs.Qxb6615582aGreatFmt
open Go.RowKit

theorem conv_own {w : World} {ar : Option Addr} {R : Bs} {cr : Nat} (h : w.ownsRow 0 5 1 (.slice ar R.length cr) R.length (bcs R)) : Sem.run Tryz.prog (convert 22 9 (.slice ar R.length cr)) w = .ok (.string ⟨R.toArray⟩) w := by
  rcases h.2 with ⟨e, h0⟩ | ⟨g, cap, cur, e, _⟩
  · have hR : R = [] := List.eq_nil_of_length_eq_zero h0
    subst hR
    cases e
    exact run_convert_bytes_nil (P := Tryz.prog) w 22 5 Tryz.underlying22 Tryz.underlying5 0 0 9 Tryz.underlying9
  · cases e
    refine run_convert_bytes_back w 22 9 5 ⟨g, 0, none⟩ _ R Tryz.underlying22 Tryz.underlying5 Tryz.underlying9 (fun j hj => ?_)
    have h1 := h.cells (g := g) rfl j (.int .u8 R[j].toNat) (by rw [bcs_at R hj])
    exact h1
theorem Tryz.info9 : (Tryz.prog.info? 9).map (fun i => (i.zero, i.size, i.bytes)) = some (some (.string .empty), 1, 16) := by kernel_rfl
theorem str_slice (w : World) (s : ByteArray) (p q : Nat) (h1 : p ≤ q) (h2 : q ≤ s.size) : Sem.run Tryz.prog (Instr.sliceAt 9 (.string s) (some (.int .i64 p)) (some (.int .i64 q)) none) w = .ok (.string (s.extract p q)) w := by
  have h3 : (p : Int) ≤ q := by omega
  have h4 : (q : Int) ≤ s.size := by omega
  clear h1 h2
  go_simp
/-- A row of strings being filled. -/
structure Fill (w : World) (B : Nat) (fs : List Bs) (k : Nat) : Prop where
  ex : ∃ cur : Array Value, Blk w B 9 cur ∧ cur.size = fs.length ∧ ∀ j (h : j < fs.length), j < k → cur[j]? = some (.string ⟨fs[j].toArray⟩)
theorem Fill.cell {w : World} {B : Nat} {fs : List Bs} {k : Nat} (h : Fill w B fs k) {j : Nat} (hj : j < fs.length) : ∃ v, w.cell? ⟨B, j, none⟩ = some v := by
  obtain ⟨cur, h1, h2, _⟩ := h.ex
  exact ⟨cur[j], h1.cell (Array.getElem?_eq_getElem (by omega))⟩
theorem Fill.free {w : World} {B : Nat} {fs : List Bs} {k : Nat} (h : Fill w B fs k) (j : Nat) : w.frozen? ⟨B, j, none⟩ = false := by
  obtain ⟨cur, h1, _⟩ := h.ex
  exact h1.free j
theorem Fill.store {w : World} {B : Nat} {fs : List Bs} {k : Nat} (h : Fill w B fs k) (hk : k < fs.length) (wx : World) (e1 : wx.heap = (w.setCell ⟨B, k, none⟩ (.string ⟨fs[k].toArray⟩)).heap) : Fill wx B fs (k + 1) := by
  obtain ⟨cur, h1, h2, h3⟩ := h.ex
  refine ⟨cur.setIfInBounds k (.string ⟨fs[k].toArray⟩), (h1.store k _).heap e1, by rw [Array.size_setIfInBounds]; exact h2, fun j hj hjk => ?_⟩
  by_cases hjk2 : j = k
  · subst hjk2
    rw [Array.getElem?_setIfInBounds_self_of_lt (by omega)]
  · rw [Array.getElem?_setIfInBounds_ne (fun e => hjk2 e.symm)]
    exact h3 j hj (by omega)
/-- The fields' ends in the text. -/
theorem cumF_at : ∀ (s : Nat) (fs : List Bs) (k : Nat), k < fs.length → (cumF s fs)[k]? = some (s + (fs.take (k + 1)).flatten.length)
  | s, [], k, h => absurd h (Nat.not_lt_zero _)
  | s, f :: fs, 0, _ => by simp [cumF]
  | s, f :: fs, k + 1, h => by
    have := cumF_at (s + f.length) fs k (by simpa using h)
    simp only [cumF, List.getElem?_cons_succ, this]
    simp [Nat.add_assoc]
theorem take_flat (fs : List Bs) (k : Nat) (h : k < fs.length) : (fs.take (k + 1)).flatten = (fs.take k).flatten ++ fs[k] := by
  rw [List.take_succ_eq_append_getElem h, List.flatten_append]
  simp
theorem flat_take (fs : List Bs) (z : Bs) (k : Nat) (h : k < fs.length) : (((fs.flatten ++ z).drop (fs.take k).flatten.length).take fs[k].length) = fs[k] := by
  have h1 : fs.flatten ++ z = (fs.take k).flatten ++ (fs[k] ++ ((fs.drop (k + 1)).flatten ++ z)) := by
    have h2 : fs = fs.take k ++ (fs[k] :: fs.drop (k + 1)) := by
      rw [List.getElem_cons_drop, List.take_append_drop]
    have h3 : fs.flatten = (fs.take k).flatten ++ (fs[k] ++ (fs.drop (k + 1)).flatten) := by
      conv => lhs; rw [h2]
      rw [List.flatten_append, List.flatten_cons]
    rw [h3]
    simp
  rw [h1, List.drop_left, List.take_left]
end Go.Proofs.Qxb6615582aGreatFmt
