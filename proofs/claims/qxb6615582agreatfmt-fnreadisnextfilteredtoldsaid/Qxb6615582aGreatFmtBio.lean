import Derived.Test.Qxb6615582aGreatFmtWalksA
import Derived.Deep.RegionWith
namespace Go.Proofs.Qxb6615582aGreatFmt
open Go.RowKit

/-- The blocks of a buffered reader over a byte slice: the bufio.Reader, its buffer, the bytes.Reader; the text's slice. -/
structure RA where
  bI : Nat
  bB : Nat
  rB : Nat
  ao : Option Addr
  cap : Nat
  D : Bs
def RA.F (A : RA) (k : Nat) : Prop := k = A.bI ∨ k = A.bB ∨ k = A.rB
/-- The text lies where the slice says, outside the reader's blocks. -/
structure RA.ok (A : RA) (w : World) : Prop where
  ib : A.bI ≠ A.bB
  ir : A.bI ≠ A.rB
  br : A.bB ≠ A.rB
  len : A.D.length ≤ 1048576
  cp : A.D.length ≤ A.cap
  cp2 : A.cap ≤ 9223372036854775807
  src : A.D ≠ [] → ∃ b o, A.ao = some ⟨b, o, none⟩ ∧ ¬ A.F b ∧ b < w.heap.size ∧ ∀ j (h : j < A.D.length), w.cell? ⟨b, o + j, none⟩ = some (.int .u8 A.D[j].toNat)
theorem RA.ok.later {A : RA} {w w' : World} (h : A.ok w) {F : Nat → Prop} (hk : Kp F w w') (hF : ∀ k, k < w.heap.size → F k → A.F k) : A.ok w' :=
  ⟨h.ib, h.ir, h.br, h.len, h.cp, h.cp2, fun hn => by
    obtain ⟨b, o, h1, h2, h3, h4⟩ := h.src hn
    exact ⟨b, o, h1, h2, Nat.lt_of_lt_of_le h3 hk.size, fun j hj => by rw [hk.cell (p := ⟨b, o + j, none⟩) h3 (fun e => h2 (hF b h3 e))]; exact h4 j hj⟩⟩

structure Bio (w : World) (A : RA) (g : Bs) (r wp i : Nat) (err : Value) (lb lr pr : Int) : Prop where
  bio : Blk w A.bI 158 #[.slice (some ⟨A.bB, 0, none⟩) 4096 4096, .iface 64 (.pointer (some ⟨A.rB, 0, none⟩)), .int .i64 r, .int .i64 wp, err, .int .i64 lb, .int .i64 lr]
  buf : Blk w A.bB 5 (bcs g).toArray
  rd : Blk w A.rB 93 #[.slice A.ao A.D.length A.cap, .int .i64 i, .int .i64 pr]
  gl : g.length = 4096
  rw : r ≤ wp
  wl : wp ≤ 4096
  il : i ≤ A.D.length
  ok : A.ok w
/-- What is unread. -/
def unr (A : RA) (g : Bs) (r wp i : Nat) : Bs := (g.take wp).drop r ++ A.D.drop i

theorem Bio.draws {w : World} {A : RA} {g : Bs} {r wp i : Nat} {err : Value} {lb lr pr : Int} (h : Bio w A g r wp i err lb lr pr) (k : Nat) : Bio (w.drewN k) A g r wp i err lb lr pr :=
  ⟨h.bio, h.buf, h.rd, h.gl, h.rw, h.wl, h.il, h.ok.later ((Kp.refl (fun _ => False) w).drewN k) (fun _ _ e => e.elim)⟩
theorem Bio.kept {w w' : World} {A : RA} {g : Bs} {r wp i : Nat} {err : Value} {lb lr pr : Int} (h : Bio w A g r wp i err lb lr pr) {F : Nat → Prop} (hk : Kp F w w') (hF : ∀ k, F k → ¬ A.F k) (hs : ∀ b o, A.ao = some ⟨b, o, none⟩ → ¬ F b) : Bio w' A g r wp i err lb lr pr :=
  ⟨h.bio.kept hk (fun e => hF _ e (.inl rfl)), h.buf.kept hk (fun e => hF _ e (.inr (.inl rfl))), h.rd.kept hk (fun e => hF _ e (.inr (.inr rfl))), h.gl, h.rw, h.wl, h.il, ⟨h.ok.ib, h.ok.ir, h.ok.br, h.ok.len, h.ok.cp, h.ok.cp2, fun hn => by
    obtain ⟨b, o, h1, h2, h3, h4⟩ := h.ok.src hn
    exact ⟨b, o, h1, h2, Nat.lt_of_lt_of_le h3 hk.size, fun j hj => by rw [hk.cell (p := ⟨b, o + j, none⟩) h3 (hs b o h1)]; exact h4 j hj⟩⟩⟩

theorem splice_bcs (g x : Bs) (off : Nat) : splice (bcs g) off (bcs x) = bcs (splice g off x) := by
  unfold splice bcs
  simp
theorem one_bcs (x : Bs) : ∀ v ∈ bcs x, v.oneCell' = true := by
  intro v hv
  simp only [bcs, List.mem_map] at hv
  obtain ⟨c, _, rfl⟩ := hv
  rfl
theorem Blk.byte {w : World} {b : Nat} {g : Bs} (h : Blk w b 5 (bcs g).toArray) {j : Nat} (hj : j < g.length) : w.cell? ⟨b, j, none⟩ = some (.int .u8 g[j].toNat) := by
  refine h.cell ?_
  simp [bcs, hj]

/-- The buffer slid to its head. -/
def slid (g : Bs) (r wp : Nat) : Bs := splice g 0 ((g.take wp).drop r)
theorem slid_length {g : Bs} {r wp : Nat} (hg : g.length = 4096) (hw : wp ≤ 4096) : (slid g r wp).length = 4096 := by
  unfold slid
  rw [length_splice _ _ _ (by simp; omega)]; exact hg
theorem unr_slid {A : RA} {g : Bs} {r wp i : Nat} (hg : g.length = 4096) (hw : wp ≤ 4096) (hr : r ≤ wp) : unr A (slid g r wp) 0 (wp - r) i = unr A g r wp i := by
  unfold unr slid splice
  congr 1
  rw [List.drop_zero, List.take_zero, List.nil_append, List.take_append_of_le_length (by simp; omega)]
  exact List.take_of_length_le (by simp; omega)
/-- The buffer filled from wp on. -/
theorem unr_fill {A : RA} {g : Bs} {wp i m : Nat} (hg : g.length = 4096) (hm : wp + m ≤ 4096) (hi : i + m ≤ A.D.length) : unr A (splice g wp ((A.D.drop i).take m)) 0 (wp + m) (i + m) = unr A g 0 wp i := by
  unfold unr splice
  rw [List.drop_zero, List.drop_zero]
  have hl : ((A.D.drop i).take m).length = m := by simp; omega
  have h1 : (g.take wp ++ ((A.D.drop i).take m ++ g.drop (wp + ((A.D.drop i).take m).length))).take (wp + m) = g.take wp ++ (A.D.drop i).take m := by
    rw [← List.append_assoc, List.take_append_of_le_length (by simp; omega)]
    exact List.take_of_length_le (by simp; omega)
  rw [h1, List.append_assoc]
  congr 1
  rw [← List.drop_drop]
  exact List.take_append_drop m (A.D.drop i)
end Go.Proofs.Qxb6615582aGreatFmt
