import Derived.Test.Qxb6615582aGreatFmtRows
import Derived.Test.Qxb6615582aGreatFmtPlain3
import Derived.WalkKit
import Derived.WalkSpells
import Derived.WalkLawsBesides
import Derived.BigQuiet
import Derived.Laws.CopyOwn
import Derived.Lib.SmallJoins
namespace Go.Proofs.Qxb6615582aGreatFmt
open Go.RowKit

theorem hide {p : Prop} (h : p) : Hid p := h

/-- Block b is a row of these cells, none frozen. -/
def Blk (w : World) (b : Nat) (t : TypeId) (cs : Array Value) : Prop := w.heap[b]? = some (.cells cs t (0, 0))
theorem Blk.cell {w : World} {b : Nat} {t : TypeId} {cs : Array Value} (h : Blk w b t cs) {k : Nat} {v : Value} (hk : cs[k]? = some v) : w.cell? ⟨b, k, none⟩ = some v := by
  unfold Blk at h
  simp [World.cell?, h, hk]
theorem Blk.free {w : World} {b : Nat} {t : TypeId} {cs : Array Value} (h : Blk w b t cs) (k : Nat) : w.frozen? ⟨b, k, none⟩ = false := by
  unfold Blk at h
  simp [World.frozen?, h]
theorem Blk.lt {w : World} {b : Nat} {t : TypeId} {cs : Array Value} (h : Blk w b t cs) : b < w.heap.size := (Array.getElem?_eq_some_iff.1 h).1
theorem Blk.store {w : World} {b : Nat} {t : TypeId} {cs : Array Value} (h : Blk w b t cs) (k : Nat) (v : Value) : Blk (w.setCell ⟨b, k, none⟩ v) b t (cs.setIfInBounds k v) := by
  rw [setCell_eq_setRow w b k cs t (0, 0) v h]
  exact setRow_heap w b cs _ t _ h
theorem Blk.other {w : World} {b : Nat} {t : TypeId} {cs : Array Value} (h : Blk w b t cs) {p : Addr} (hp : b ≠ p.block) (v : Value) : Blk (w.setCell p v) b t cs := by
  unfold Blk
  rw [Below.heap_setCell w p v b hp]; exact h
theorem Blk.drewN {w : World} {b : Nat} {t : TypeId} {cs : Array Value} (h : Blk w b t cs) (k : Nat) : Blk (w.drewN k) b t cs := h
theorem Blk.new (w : World) (t : TypeId) (cs : Array Value) : Blk (w.alloc (.cells cs t)) w.heap.size t cs := heap_alloc_new w _
theorem Blk.alloc {w : World} {b : Nat} {t : TypeId} {cs : Array Value} (h : Blk w b t cs) (o : Obj) : Blk (w.alloc o) b t cs := by
  unfold Blk
  rw [Below.heap_alloc w o b h.lt]; exact h

/-- Every old block outside F is as it was. -/
structure Kp (F : Nat → Prop) (w w' : World) : Prop where
  os : w'.os = w.os
  tape : w'.tape = w.tape
  output : w'.output = w.output
  size : w.heap.size ≤ w'.heap.size
  block : ∀ k, k < w.heap.size → ¬ F k → w'.heap[k]? = w.heap[k]?
theorem Kp.refl (F : Nat → Prop) (w : World) : Kp F w w := ⟨rfl, rfl, rfl, Nat.le_refl _, fun _ _ _ => rfl⟩
theorem Kp.trans {F : Nat → Prop} {a b c : World} (h : Kp F a b) (k : Kp (fun i => F i ∨ a.heap.size ≤ i) b c) : Kp F a c :=
  ⟨k.os.trans h.os, k.tape.trans h.tape, k.output.trans h.output, Nat.le_trans h.size k.size, fun i hi hf => (k.block i (Nat.lt_of_lt_of_le hi h.size) (fun e => by rcases e with e | e; exact hf e; omega)).trans (h.block i hi hf)⟩
theorem Kp.mono {F G : Nat → Prop} {w w' : World} (h : Kp F w w') (hG : ∀ k, k < w.heap.size → F k → G k) : Kp G w w' := ⟨h.os, h.tape, h.output, h.size, fun k hk hn => h.block k hk (fun e => hn (hG k hk e))⟩
theorem Kp.drewN {F : Nat → Prop} {a w : World} (h : Kp F a w) (k : Nat) : Kp F a (w.drewN k) := ⟨h.os, h.tape, h.output, h.size, h.block⟩
theorem Kp.drew {F : Nat → Prop} {a w : World} (h : Kp F a w) : Kp F a w.drew := ⟨h.os, h.tape, h.output, h.size, h.block⟩
theorem Kp.undrew {F : Nat → Prop} {w w' : World} (h : Kp F w.drew w') : Kp F w w' := ⟨h.os, h.tape, h.output, h.size, h.block⟩
theorem Kp.undrewN {F : Nat → Prop} {w w' : World} {k : Nat} (h : Kp F (w.drewN k) w') : Kp F w w' := ⟨h.os, h.tape, h.output, h.size, h.block⟩
theorem Kp.alloc {F : Nat → Prop} {a w : World} (h : Kp F a w) (o : Obj) : Kp F a (w.alloc o) :=
  h.trans ⟨rfl, rfl, rfl, by simp, fun k hk _ => Below.heap_alloc _ _ _ hk⟩
theorem Kp.setCell {F : Nat → Prop} {a w : World} (h : Kp F a w) {p : Addr} (hp : F p.block ∨ a.heap.size ≤ p.block) (u : Value) : Kp F a (w.setCell p u) :=
  h.trans ⟨rfl, rfl, rfl, by simp, fun k _ hn => Below.heap_setCell _ _ _ _ (fun e => hn (by subst e; exact hp))⟩
theorem Kp.below {F : Nat → Prop} {w w' : World} (h : Kp F w w') {B : Nat} (hB : B ≤ w.heap.size) (hF : ∀ k, F k → B ≤ k) : Below B w w' :=
  ⟨h.os, h.tape, h.output, h.size, fun k hk => h.block k (by omega) (fun e => by have := hF k e; omega)⟩
theorem Kp.of_below {w w' : World} (h : Below w.heap.size w w') (F : Nat → Prop) : Kp F w w' := ⟨h.os, h.tape, h.output, h.size, fun k hk _ => h.block k hk⟩
theorem Kp.grown {F : Nat → Prop} {w w' : World} {row : Option Nat} (h : w.grownBy w' row) (hr : ∀ k, row = some k → F k) : Kp F w w' :=
  ⟨h.os, h.tape, h.output, h.size, fun k hk hn => h.block k hk (fun e => hn (hr k e.symm))⟩
theorem Blk.kept {w w' : World} {b : Nat} {t : TypeId} {cs : Array Value} {F : Nat → Prop} (h : Blk w b t cs) (hk : Kp F w w') (hn : ¬ F b) : Blk w' b t cs := by
  unfold Blk
  rw [hk.block b h.lt hn]; exact h
theorem Kp.cell {F : Nat → Prop} {w w' : World} (h : Kp F w w') {p : Addr} (hp : p.block < w.heap.size) (hn : ¬ F p.block) : w'.cell? p = w.cell? p := World.cell?_of_block (w := w) (h.block p.block hp hn)

/-- Bytes as cells. -/
def bcs (l : Bs) : List Value := l.map fun c => .int .u8 c.toNat
theorem bcs_length (l : Bs) : (bcs l).length = l.length := by simp [bcs]
theorem bcs_at (l : Bs) {j : Nat} (h : j < l.length) : (bcs l)[j]? = some (.int .u8 l[j].toNat) := by simp [bcs, h]

/-- The slice value sv reads the bytes D. -/
def Src (w : World) (sv : Value) (D : Bs) : Prop :=
  ∃ ao cap, sv = .slice ao D.length cap ∧ D.length ≤ cap ∧ cap ≤ 9223372036854775807 ∧ (D ≠ [] → ∃ b o, ao = some ⟨b, o, none⟩ ∧ b < w.heap.size ∧ ∀ j (h : j < D.length), w.cell? ⟨b, o + j, none⟩ = some (.int .u8 D[j].toNat))

theorem Tryz.info5' : (Tryz.prog.info? 5).map (·.size) = some 1 := by kernel_rfl
theorem Tryz.info5 : (Tryz.prog.info? 5).map (fun i => (i.zero, i.size, i.bytes)) = some (some (.int .u8 0), 1, 1) := by kernel_rfl
end Go.Proofs.Qxb6615582aGreatFmt
