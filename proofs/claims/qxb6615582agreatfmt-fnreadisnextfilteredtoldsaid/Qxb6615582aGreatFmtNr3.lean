import Derived.Test.Qxb6615582aGreatFmtNr2
namespace Go.Proofs.Qxb6615582aGreatFmt
open Go.RowKit

/-- The fields as byte arrays. -/
def fsb (fs : List Bs) : List ByteArray := fs.map fun l => ⟨l.toArray⟩
theorem fsb_length (fs : List Bs) : (fsb fs).length = fs.length := by simp [fsb]
theorem Strs.sv {w : World} {T : Nat → Nat} {v : Value} {fs : List Bs} (h : Strs w T v fs) : ∃ b cap, v = .slice (some ⟨b, 0, none⟩) fs.length cap ∧ fs.length ≤ cap ∧ b < w.heap.size ∧ Sv w (some ⟨b, 0, none⟩) (fsb fs) := by
  obtain ⟨b, cap, h1, h2, h3, h4, h5⟩ := h.ex
  refine ⟨b, cap, h1, h2, h4, fun k hk => ⟨b, 0, rfl, ?_⟩⟩
  rw [fsb_length] at hk
  rw [Nat.zero_add, h5 k hk]
  simp [fsb]
theorem Sv.kept {w w' : World} {ao : Option Addr} {ss : List ByteArray} {F : Nat → Prop} (h : Sv w ao ss) (hk : Kp F w w') (hF : ∀ b o, ao = some ⟨b, o, none⟩ → ¬ F b) : Sv w' ao ss := fun k hk2 => by
  obtain ⟨b, o, h1, h2⟩ := h k hk2
  exact ⟨b, o, h1, by rw [hk.cell (p := ⟨b, o + k, none⟩) (lt_of_cell h2) (hF b o h1)]; exact h2⟩
theorem lens_le : ∀ (xs : List Bs) (n : Nat), (∀ x ∈ xs, x.length ≤ n) → Lib.lens xs ≤ xs.length * n
  | [], n, _ => by simp [Lib.lens]
  | x :: r, n, h => by
    have ih := lens_le r n (fun y hy => h y (List.mem_cons_of_mem _ hy))
    have hx := h x List.mem_cons_self
    simp only [Lib.lens, List.map_cons, List.sum_cons, List.length_cons] at ih ⊢
    rw [Nat.succ_mul]
    omega
theorem join_le {xs : List Bs} {n : Nat} (h : ∀ x ∈ xs, x.length ≤ n) : (Lib.join xs [44]).length ≤ xs.length * n + xs.length := by
  match xs, h with
  | [], _ => simp [Lib.join]
  | x :: r, h =>
    rw [Lib.join_length]
    have := lens_le (x :: r) n h
    simp only [List.length_cons, List.length_nil] at this ⊢
    omega
/-- strings.Join with a comma. -/
theorem join_c {w : World} {co : Option Addr} {cc' : Nat} {cs : List ByteArray} (hS : Sv w co cs) (hl : cs.length ≤ 1048577) (hz : ∀ s ∈ cs, s.size ≤ 1048576) (hc : cs.length ≤ cc') :
    ∃ J, ∀ W, Kp (fun _ => False) w W → Calls Tryz.prog 41 #[.slice co cs.length cc', .string ⟨#[44]⟩] W fun e w' => e = .returned (.string J) ∧ Kp (fun _ => False) W w' := by
  by_cases h0 : cs = []
  · subst h0
    exact ⟨_, fun W _ => (Tryz.strings_Join_none co cc' _ W).mono (by rintro e w' ⟨he, rfl⟩; exact ⟨he, Kp.refl _ _⟩)⟩
  · have hpos : 0 < cs.length := List.length_pos_iff.2 h0
    obtain ⟨b, o, rfl, _⟩ := hS 0 hpos
    have hlen : (Lib.join (cs.map (·.data.toList)) [44]).length ≤ 140737488355328 := by
      have h1 := join_le (xs := cs.map (·.data.toList)) (n := 1048576) (fun x hx => by
        obtain ⟨s, hs, rfl⟩ := List.mem_map.1 hx
        have := hz s hs
        simpa using this)
      rw [List.length_map] at h1
      have h2 : cs.length * 1048576 ≤ 1048577 * 1048576 := Nat.mul_le_mul_right _ hl
      omega
    refine ⟨_, fun W hk => (Tryz.strings_Join b o cc' cs ⟨#[44]⟩ W (fun j x hx => ?_) ?_ (by omega) hc hlen).mono (by rintro e w' ⟨he, hb⟩; exact ⟨he, Kp.of_below hb _⟩)⟩
    · obtain ⟨hj, rfl⟩ := List.getElem?_eq_some_iff.1 hx
      obtain ⟨b', o', e, h2⟩ := hS j hj
      cases e
      rw [hk.cell (p := ⟨b, o + j, none⟩) (lt_of_cell h2) (fun e => e)]; exact h2
    · obtain ⟨b', o', e, h2⟩ := hS 0 hpos
      cases e
      exact Nat.lt_of_lt_of_le (lt_of_cell h2) hk.size

/-- What NewReader answers. -/
def NrPost (w : World) (sb : Option Addr) (cols : Value) (cs : List ByteArray) (N : Nat) (ae aq abq : Addr) (X : Out × Nat) (e : Ending) (w' : World) : Prop :=
  ∃ v ve, e = .returned (.tuple #[v, ve]) ∧ Kp (fun _ => False) w w' ∧
    ((X.1.oc = 1 ∧ v = .pointer none ∧ ∃ a S, w.heap.size ≤ a ∧ ve = .iface 95 (.pointer (some ⟨a, 0, none⟩)) ∧ Blk w' a 97 #[.string S]) ∨
     (v = .pointer none ∧ ∃ fe a, ve = .iface 76 (.pointer (some ⟨fe, 0, none⟩)) ∧ Blk w' fe 79 #[.int .i64 X.2, .string .empty, ev a] ∧ ((a = aq ∧ X.1.oc = 2) ∨ (a = abq ∧ X.1.oc = 3))) ∨
     (X.1.oc = 0 ∧ fsb X.1.fs ≠ cs ∧ v = .pointer none ∧ ∃ fe a S, w.heap.size ≤ a ∧ ve = .iface 76 (.pointer (some ⟨fe, 0, none⟩)) ∧ Blk w' fe 79 #[.int .i64 X.2, .string .empty, .iface 95 (.pointer (some ⟨a, 0, none⟩))] ∧ Blk w' a 97 #[.string S]) ∨
     (X.1.oc = 0 ∧ fsb X.1.fs = cs ∧ ve = .nilIface ∧ ∃ nB T, v = .pointer (some ⟨nB, 0, none⟩) ∧ Rdr w.heap.size w' T nB sb cols X.1.rest X.1.ln N ae))
/-- The world in which NewReader asks for the header. -/
def nrW (w : World) (pre : Obj) (ao : Option Addr) (n cap : Nat) (cols : Value) : World :=
  (((((w.alloc pre).alloc (.cells #[.slice ao n cap, .int .i64 0, .int .i64 (-1)] 93)).alloc (.cells #[.slice (some ⟨w.heap.size + 1 + 1 + 1, 0, none⟩) 4096 4096, .iface 64 (.pointer (some ⟨w.heap.size + 1, 0, none⟩)), .int .i64 0, .int .i64 0, .nilIface, .int .i64 (-1), .int .i64 (-1)] 158)).alloc (.cells nz 5)).alloc
    (.cells #[.int .i32 44, .int .i32 0, .int .i64 (-1), .bool false, .bool false, .bool false, .bool false, .pointer (some ⟨w.heap.size + 1 + 1, 0, none⟩), .int .i64 0, .int .i64 0, .slice none 0 0, .slice none 0 0, .slice none 0 0, .slice none 0 0, .slice none 0 0] 73)).alloc
    (.cells #[.pointer (some ⟨w.heap.size + 1 + 1 + 1 + 1, 0, none⟩), cols] 68)
theorem nrW_kp (w : World) (pre : Obj) (ao : Option Addr) (n cap : Nat) (cols : Value) : Kp (fun _ => False) w (nrW w pre ao n cap cols) := (((((Kp.refl _ w).alloc _).alloc _).alloc _).alloc _).alloc _ |>.alloc _
theorem nrW_nw {w : World} {pre : Obj} {ao : Option Addr} {D : Bs} {cap : Nat} {cols : Value} (hT : Tx (w.alloc pre) ao D) (h1 : D.length ≤ 1048576) (h2 : D.length ≤ cap) (h3 : cap ≤ 9223372036854775807) : Nw (w.alloc pre) (nrW w pre ao D.length cap cols) (w.heap.size + 1) D ao cap ∧ Blk (nrW w pre ao D.length cap cols) (w.heap.size + 5) 68 #[.pointer (some ⟨w.heap.size + 1 + 3, 0, none⟩), cols] := by
  have hs : (w.alloc pre).heap.size = w.heap.size + 1 := by simp
  refine ⟨⟨?_, ?_, ?_, ?_, hT, h1, h2, h3, ?_, by rw [hs]; exact Nat.le_refl _⟩, ?_⟩
  · have := ((((Blk.new (w.alloc pre) 93 #[.slice ao D.length cap, .int .i64 0, .int .i64 (-1)]).alloc (.cells #[.slice (some ⟨w.heap.size + 1 + 1 + 1, 0, none⟩) 4096 4096, .iface 64 (.pointer (some ⟨w.heap.size + 1, 0, none⟩)), .int .i64 0, .int .i64 0, .nilIface, .int .i64 (-1), .int .i64 (-1)] 158)).alloc (.cells nz 5)).alloc (.cells #[.int .i32 44, .int .i32 0, .int .i64 (-1), .bool false, .bool false, .bool false, .bool false, .pointer (some ⟨w.heap.size + 1 + 1, 0, none⟩), .int .i64 0, .int .i64 0, .slice none 0 0, .slice none 0 0, .slice none 0 0, .slice none 0 0, .slice none 0 0] 73)).alloc (.cells #[.pointer (some ⟨w.heap.size + 1 + 1 + 1 + 1, 0, none⟩), cols] 68)
    rw [hs] at this; exact this
  · have := (((Blk.new ((w.alloc pre).alloc (.cells #[.slice ao D.length cap, .int .i64 0, .int .i64 (-1)] 93)) 158 #[.slice (some ⟨w.heap.size + 1 + 1 + 1, 0, none⟩) 4096 4096, .iface 64 (.pointer (some ⟨w.heap.size + 1, 0, none⟩)), .int .i64 0, .int .i64 0, .nilIface, .int .i64 (-1), .int .i64 (-1)]).alloc (.cells nz 5)).alloc (.cells #[.int .i32 44, .int .i32 0, .int .i64 (-1), .bool false, .bool false, .bool false, .bool false, .pointer (some ⟨w.heap.size + 1 + 1, 0, none⟩), .int .i64 0, .int .i64 0, .slice none 0 0, .slice none 0 0, .slice none 0 0, .slice none 0 0, .slice none 0 0] 73)).alloc (.cells #[.pointer (some ⟨w.heap.size + 1 + 1 + 1 + 1, 0, none⟩), cols] 68)
    rw [show ((w.alloc pre).alloc (.cells #[.slice ao D.length cap, .int .i64 0, .int .i64 (-1)] 93)).heap.size = w.heap.size + 1 + 1 by simp] at this; exact this
  · have := ((Blk.new (((w.alloc pre).alloc (.cells #[.slice ao D.length cap, .int .i64 0, .int .i64 (-1)] 93)).alloc (.cells #[.slice (some ⟨w.heap.size + 1 + 1 + 1, 0, none⟩) 4096 4096, .iface 64 (.pointer (some ⟨w.heap.size + 1, 0, none⟩)), .int .i64 0, .int .i64 0, .nilIface, .int .i64 (-1), .int .i64 (-1)] 158)) 5 nz).alloc (.cells #[.int .i32 44, .int .i32 0, .int .i64 (-1), .bool false, .bool false, .bool false, .bool false, .pointer (some ⟨w.heap.size + 1 + 1, 0, none⟩), .int .i64 0, .int .i64 0, .slice none 0 0, .slice none 0 0, .slice none 0 0, .slice none 0 0, .slice none 0 0] 73)).alloc (.cells #[.pointer (some ⟨w.heap.size + 1 + 1 + 1 + 1, 0, none⟩), cols] 68)
    rw [show (((w.alloc pre).alloc (.cells #[.slice ao D.length cap, .int .i64 0, .int .i64 (-1)] 93)).alloc (.cells #[.slice (some ⟨w.heap.size + 1 + 1 + 1, 0, none⟩) 4096 4096, .iface 64 (.pointer (some ⟨w.heap.size + 1, 0, none⟩)), .int .i64 0, .int .i64 0, .nilIface, .int .i64 (-1), .int .i64 (-1)] 158)).heap.size = w.heap.size + 1 + 2 by simp] at this; exact this
  · have := (Blk.new ((((w.alloc pre).alloc (.cells #[.slice ao D.length cap, .int .i64 0, .int .i64 (-1)] 93)).alloc (.cells #[.slice (some ⟨w.heap.size + 1 + 1 + 1, 0, none⟩) 4096 4096, .iface 64 (.pointer (some ⟨w.heap.size + 1, 0, none⟩)), .int .i64 0, .int .i64 0, .nilIface, .int .i64 (-1), .int .i64 (-1)] 158)).alloc (.cells nz 5)) 73 #[.int .i32 44, .int .i32 0, .int .i64 (-1), .bool false, .bool false, .bool false, .bool false, .pointer (some ⟨w.heap.size + 1 + 1, 0, none⟩), .int .i64 0, .int .i64 0, .slice none 0 0, .slice none 0 0, .slice none 0 0, .slice none 0 0, .slice none 0 0]).alloc (.cells #[.pointer (some ⟨w.heap.size + 1 + 1 + 1 + 1, 0, none⟩), cols] 68)
    rw [show ((((w.alloc pre).alloc (.cells #[.slice ao D.length cap, .int .i64 0, .int .i64 (-1)] 93)).alloc (.cells #[.slice (some ⟨w.heap.size + 1 + 1 + 1, 0, none⟩) 4096 4096, .iface 64 (.pointer (some ⟨w.heap.size + 1, 0, none⟩)), .int .i64 0, .int .i64 0, .nilIface, .int .i64 (-1), .int .i64 (-1)] 158)).alloc (.cells nz 5)).heap.size = w.heap.size + 1 + 3 by simp] at this; exact this
  · exact (((((Kp.refl _ _).alloc _).alloc _).alloc _).alloc _).alloc _
  · have := Blk.new (((((w.alloc pre).alloc (.cells #[.slice ao D.length cap, .int .i64 0, .int .i64 (-1)] 93)).alloc (.cells #[.slice (some ⟨w.heap.size + 1 + 1 + 1, 0, none⟩) 4096 4096, .iface 64 (.pointer (some ⟨w.heap.size + 1, 0, none⟩)), .int .i64 0, .int .i64 0, .nilIface, .int .i64 (-1), .int .i64 (-1)] 158)).alloc (.cells nz 5)).alloc (.cells #[.int .i32 44, .int .i32 0, .int .i64 (-1), .bool false, .bool false, .bool false, .bool false, .pointer (some ⟨w.heap.size + 1 + 1, 0, none⟩), .int .i64 0, .int .i64 0, .slice none 0 0, .slice none 0 0, .slice none 0 0, .slice none 0 0, .slice none 0 0] 73)) 68 #[.pointer (some ⟨w.heap.size + 1 + 1 + 1 + 1, 0, none⟩), cols]
    rw [show (((((w.alloc pre).alloc (.cells #[.slice ao D.length cap, .int .i64 0, .int .i64 (-1)] 93)).alloc (.cells #[.slice (some ⟨w.heap.size + 1 + 1 + 1, 0, none⟩) 4096 4096, .iface 64 (.pointer (some ⟨w.heap.size + 1, 0, none⟩)), .int .i64 0, .int .i64 0, .nilIface, .int .i64 (-1), .int .i64 (-1)] 158)).alloc (.cells nz 5)).alloc (.cells #[.int .i32 44, .int .i32 0, .int .i64 (-1), .bool false, .bool false, .bool false, .bool false, .pointer (some ⟨w.heap.size + 1 + 1, 0, none⟩), .int .i64 0, .int .i64 0, .slice none 0 0, .slice none 0 0, .slice none 0 0, .slice none 0 0, .slice none 0 0] 73)).heap.size = w.heap.size + 5 by simp] at this; exact this
end Go.Proofs.Qxb6615582aGreatFmt
