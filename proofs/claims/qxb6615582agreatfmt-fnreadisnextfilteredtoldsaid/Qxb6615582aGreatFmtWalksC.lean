import Derived.Test.Qxb6615582aGreatFmtWalksB
import Derived.Test.Qxb6615582aGreatFmtPlain4
namespace Go.Proofs.Qxb6615582aGreatFmt
open Go.RowKit

theorem bytesOf_map (l : Bs) : Lib.bytesOf (l.map fun c => (c.toNat : Int)) = l := by
  unfold Lib.bytesOf
  induction l with
  | nil => rfl
  | cons c l ih =>
    simp only [List.map_cons, Int.toNat_natCast, List.cons.injEq] at ih ⊢
    exact ⟨by simp, ih⟩

set_option maxRecDepth 100000 in
set_option maxHeartbeats 1000000 in
theorem indexByte_c {w : World} {b o cap : Nat} {l : Bs} {c : UInt8} (hc : ∀ j (h : j < l.length), w.cell? ⟨b, o + j, none⟩ = some (.int .u8 l[j].toNat)) :
    Calls Tryz.prog 74 #[.slice (some ⟨b, o, none⟩) l.length cap, .int .u8 c.toNat] w fun e w' => e = .returned (.int .i64 (Lib.indexByte l c)) ∧ w' = w := by
  have hr := Lib.run_indexByteSlice (P := Tryz.prog) w b o l.length cap (l.map fun c => (c.toNat : Int)) (by simp) (fun i hi => by
    rw [hc i hi]; simp [hi]) (c.toNat : Int)
  rw [bytesOf_map, Int.toNat_natCast, show c.toNat.toUInt8 = c by simp] at hr
  have Hr := hide hr
  clear hr hc
  go_enter Tryz.func74, Tryz.ntmps74
  go_wp2
  rw [run_callFunc_extern Tryz.func89 (by kernel_rfl) (by kernel_rfl) (by kernel_rfl) (e := Extern.BytealgIndexByte.indexByte) (by kernel_rfl), Hr.out]
  simp only [Result.andThen]
  rw [Oper.upon_value]
  go_wp2
  go_ret
  exact ⟨rfl, rfl⟩

set_option maxRecDepth 100000 in
set_option maxHeartbeats 1000000 in
theorem buffered_c {w : World} {A : RA} {g : Bs} {r wp i : Nat} {err : Value} {lb lr pr : Int} (h : Bio w A g r wp i err lb lr pr) :
    Calls Tryz.prog 91 #[.pointer (some ⟨A.bI, 0, none⟩)] w fun e w' => e = .returned (.int .i64 ((wp : Int) - r)) ∧ ∃ k, w' = w.drewN k := by
  have c2 := h.bio.cell (k := 2) rfl
  have c3 := h.bio.cell (k := 3) rfl
  have hrw : (r : Int) ≤ wp := by have := h.rw; omega
  have hwl : (wp : Int) ≤ 4096 := by have := h.wl; omega
  clear h
  go_enter Tryz.func91, Tryz.ntmps91
  go_wp2
  go_quiet (fail)
  go_wp2
  go_ret
  exact ⟨rfl, _, rfl⟩

set_option maxRecDepth 100000 in
set_option maxHeartbeats 1000000 in
theorem readErr_c {w : World} {A : RA} {g : Bs} {r wp i : Nat} {err : Value} {lb lr pr : Int} (h : Bio w A g r wp i err lb lr pr) :
    Calls Tryz.prog 90 #[.pointer (some ⟨A.bI, 0, none⟩)] w fun e w' => e = .returned err ∧ w' = w.setCell ⟨A.bI, 4, none⟩ .nilIface := by
  have c4 := h.bio.cell (k := 4) rfl
  have f4 := h.bio.free 4
  clear h
  go_enter Tryz.func90, Tryz.ntmps90
  go_wp2
  go_ret
  exact ⟨rfl, rfl⟩
theorem Blk.heap {w wx : World} {b : Nat} {t : TypeId} {cs : Array Value} (h : Blk w b t cs) (e : wx.heap = w.heap) : Blk wx b t cs := by
  unfold Blk at h ⊢
  rw [e]; exact h
theorem Kp.heap {F : Nat → Prop} {a w wx : World} (h : Kp F a w) (e1 : wx.heap = w.heap) (e2 : wx.os = w.os) (e3 : wx.tape = w.tape) (e4 : wx.output = w.output) : Kp F a wx :=
  ⟨e2.trans h.os, e3.trans h.tape, e4.trans h.output, by rw [e1]; exact h.size, fun k h1 h2 => by rw [e1]; exact h.block k h1 h2⟩
theorem Bio.turn {w wx : World} {A : RA} {g : Bs} {r wp i : Nat} {err : Value} {lb lr pr : Int} (h : Bio w A g r wp i err lb lr pr) (hk : Kp (fun k => k = A.bI) w wx) {r' : Nat} {err' : Value} {lb' lr' : Int} (hr : r' ≤ wp)
    (hb : Blk wx A.bI 158 #[.slice (some ⟨A.bB, 0, none⟩) 4096 4096, .iface 64 (.pointer (some ⟨A.rB, 0, none⟩)), .int .i64 r', .int .i64 wp, err', .int .i64 lb', .int .i64 lr']) : Bio wx A g r' wp i err' lb' lr' pr :=
  ⟨hb, h.buf.kept (F := fun k => k = A.bI) hk h.ok.ib.symm, h.rd.kept (F := fun k => k = A.bI) hk h.ok.ir.symm, h.gl, hr, h.wl, h.il, h.ok.later hk (fun _ _ e => .inl e)⟩

/-- The reader's error field is in order. -/
def Eok (A : RA) (ae : Addr) (err : Value) (i : Nat) : Prop := err = .nilIface ∨ (err = ev ae ∧ i = A.D.length)
/-- A buffered reader with U unread. -/
structure BioU (w : World) (A : RA) (ae : Addr) (U : Bs) (g : Bs) (r : Nat) : Prop where
  ex : ∃ wp i err lb lr pr, Bio w A g r wp i err lb lr pr ∧ unr A g r wp i = U ∧ Eok A ae err i

/-- What ReadSlice leaves. -/
structure RSOut (w w' : World) (A : RA) (ae : Addr) (U' L : Bs) (v : Value) : Prop where
  kp : Kp A.F w w'
  ex : ∃ g r o cap, BioU w' A ae U' g r ∧ v = .slice (some ⟨A.bB, o, none⟩) L.length cap ∧ L.length ≤ cap ∧ cap ≤ 4096 ∧ o + L.length ≤ r ∧ (g.drop o).take L.length = L

def muOf (A : RA) (w : World) : Nat := 2 * (A.D.length - (match w.cell? ⟨A.rB, 1, none⟩ with | some (.int _ k) => k.toNat | _ => 0)) + (match w.cell? ⟨A.bI, 4, none⟩ with | some .nilIface => 1 | _ => 0)
theorem Bio.mu {w : World} {A : RA} {g : Bs} {r wp i : Nat} {err : Value} {lb lr pr : Int} (h : Bio w A g r wp i err lb lr pr) : muOf A w = 2 * (A.D.length - i) + (match err with | .nilIface => 1 | _ => 0) := by
  unfold muOf
  rw [h.rd.cell (k := 1) rfl, h.bio.cell (k := 4) rfl]
  cases err <;> rfl

/-- The state at a round's head. -/
structure RSst (w wr : World) (A : RA) (ae : Addr) (U g : Bs) (r wp i : Nat) (err : Value) (lb lr pr : Int) (s : Nat) : Prop where
  bio : Bio wr A g r wp i err lb lr pr
  un : unr A g r wp i = U
  no : 10 ∉ ((g.take wp).drop r).take s
  eok : Eok A ae err i
  kp : Kp A.F w wr
  sl : s ≤ wp - r

theorem seg_len {g : Bs} {r wp : Nat} (hg : g.length = 4096) (hw : wp ≤ 4096) : ((g.take wp).drop r).length = wp - r := by simp; omega
theorem seg_cut {A : RA} {g : Bs} {r wp i : Nat} {x y : Bs} (hg : g.length = 4096) (hw : wp ≤ 4096) (hr : r ≤ wp) (h : (g.take wp).drop r = x ++ y) : unr A g r wp i = x ++ unr A g (r + x.length) wp i ∧ (g.drop r).take x.length = x ∧ r + x.length ≤ wp := by
  have hl := congrArg List.length h
  rw [seg_len hg hw, List.length_append] at hl
  refine ⟨?_, ?_, by omega⟩
  · unfold unr
    rw [← List.drop_drop, h, List.drop_left, List.append_assoc]
  · have h2 : (g.drop r).take (wp - r) = x ++ y := by rw [← h, List.drop_take]
    have h3 : (g.drop r).take x.length = ((g.drop r).take (wp - r)).take x.length := by rw [List.take_take, Nat.min_eq_left (by omega)]
    rw [h3, h2, List.take_left]
theorem RSst.draws {w wr : World} {A : RA} {ae : Addr} {U g : Bs} {r wp i : Nat} {err : Value} {lb lr pr : Int} {s : Nat} (h : RSst w wr A ae U g r wp i err lb lr pr s) (k : Nat) : RSst w (wr.drewN k) A ae U g r wp i err lb lr pr s :=
  ⟨h.bio.draws k, h.un, h.no, h.eok, h.kp.drewN k, h.sl⟩
def RSPost (w : World) (A : RA) (ae ab : Addr) (U : Bs) (e : Ending) (w' : World) : Prop :=
  ∃ L U' v ve, e = .returned (.tuple #[v, ve]) ∧ U = L ++ U' ∧ RSOut w w' A ae U' L v ∧ ((ve = .nilIface ∧ ∃ a, L = a ++ [10] ∧ 10 ∉ a) ∨ (ve = ev ae ∧ U' = [] ∧ 10 ∉ L) ∨ (ve = ev ab ∧ L.length = 4096 ∧ 10 ∉ L))
/-- The line is found. -/
theorem rs_found {w wr : World} {A : RA} {ae : Addr} {U g : Bs} {r wp i : Nat} {err : Value} {lb lr pr : Int} {s : Nat} (h : RSst w wr A ae U g r wp i err lb lr pr s) {a b : Bs} (hs : ((g.take wp).drop r).drop s = a ++ 10 :: b) (ha : 10 ∉ a) (wx : World) (x1 x2 x3 : Int) (h1 : x1 = ((r + (s + a.length + 1) : Nat) : Int)) (n : Nat) (hn : n = s + a.length + 1)
    (e1 : wx.heap = (((wr.setCell ⟨A.bI, 2, none⟩ (.int .i64 x1)).setCell ⟨A.bI, 5, none⟩ (.int .i64 x2)).setCell ⟨A.bI, 6, none⟩ (.int .i64 x3)).heap) (e2 : wx.os = wr.os) (e3 : wx.tape = wr.tape) (e4 : wx.output = wr.output) :
    ∃ L U' : Bs, U = L ++ U' ∧ L.length = s + a.length + 1 ∧ (∃ c, L = c ++ [10] ∧ 10 ∉ c) ∧ RSOut w wx A ae U' L (.slice (some ⟨A.bB, r, none⟩) n (4096 - r)) := by
  subst h1 hn
  have hseg : (g.take wp).drop r = (((g.take wp).drop r).take s ++ a ++ [10]) ++ b := by
    rw [List.append_assoc, List.append_assoc, List.singleton_append, ← hs, List.take_append_drop]
  obtain ⟨k1, k2, k3⟩ := seg_cut (A := A) (i := i) h.bio.gl h.bio.wl h.bio.rw hseg
  have hl : (((g.take wp).drop r).take s ++ a ++ [10]).length = s + a.length + 1 := by
    have := h.sl
    have := h.bio.gl
    have := h.bio.wl
    simp; omega
  have hk : Kp (fun k => k = A.bI) wr wx := Kp.heap ((((Kp.refl (fun k => k = A.bI) wr).setCell (p := ⟨A.bI, 2, none⟩) (.inl rfl) _).setCell (p := ⟨A.bI, 5, none⟩) (.inl rfl) _).setCell (p := ⟨A.bI, 6, none⟩) (.inl rfl) _) e1 e2 e3 e4
  have hb := (((h.bio.bio.store 2 (.int .i64 ((r + (s + a.length + 1) : Nat) : Int))).store 5 (.int .i64 x2)).store 6 (.int .i64 x3)).heap e1
  rw [hl] at k1 k2 k3
  refine ⟨_, unr A g (r + (s + a.length + 1)) wp i, by rw [← h.un, k1], hl, ⟨_, rfl, ?_⟩, h.kp.trans (hk.mono (fun k _ e => .inl (.inl e))), g, r + (s + a.length + 1), r, 4096 - r, ⟨wp, i, err, x2, x3, pr, h.bio.turn hk k3 (by simpa using hb), rfl, h.eok⟩, by rw [hl], by rw [hl]; have := h.bio.wl; omega, by omega, by rw [hl]; exact Nat.le_refl _, by rw [hl]; exact k2⟩
  intro hm
  rcases List.mem_append.1 hm with e | e
  · exact h.no e
  · exact ha e
/-- The buffer is full, and no newline in it. -/
theorem rs_full {w wr : World} {A : RA} {ae : Addr} {U g : Bs} {r wp i : Nat} {err : Value} {lb lr pr : Int} {s : Nat} (h : RSst w wr A ae U g r wp i err lb lr pr s) (hno : 10 ∉ (g.take wp).drop r) (hf : 4096 ≤ wp - r) (wx : World) (x2 x3 : Int)
    (e1 : wx.heap = (((wr.setCell ⟨A.bI, 2, none⟩ (.int .i64 wp)).setCell ⟨A.bI, 5, none⟩ (.int .i64 x2)).setCell ⟨A.bI, 6, none⟩ (.int .i64 x3)).heap) (e2 : wx.os = wr.os) (e3 : wx.tape = wr.tape) (e4 : wx.output = wr.output) :
    ∃ L U' : Bs, U = L ++ U' ∧ L.length = 4096 ∧ 10 ∉ L ∧ RSOut w wx A ae U' L (.slice (some ⟨A.bB, 0, none⟩) 4096 4096) := by
  have hw := h.bio.wl
  obtain rfl : r = 0 := by omega
  obtain rfl : wp = 4096 := by omega
  have hgt : g.take 4096 = g := List.take_of_length_le (Nat.le_of_eq h.bio.gl)
  rw [List.drop_zero, hgt] at hno
  obtain ⟨k1, k2, k3⟩ := seg_cut (A := A) (i := i) (x := g) (y := []) h.bio.gl h.bio.wl h.bio.rw (by rw [List.drop_zero, hgt, List.append_nil])
  have hk : Kp (fun k => k = A.bI) wr wx := Kp.heap ((((Kp.refl (fun k => k = A.bI) wr).setCell (p := ⟨A.bI, 2, none⟩) (.inl rfl) _).setCell (p := ⟨A.bI, 5, none⟩) (.inl rfl) _).setCell (p := ⟨A.bI, 6, none⟩) (.inl rfl) _) e1 e2 e3 e4
  have hb := (((h.bio.bio.store 2 (.int .i64 ((4096 : Nat) : Int))).store 5 (.int .i64 x2)).store 6 (.int .i64 x3)).heap e1
  rw [h.bio.gl] at k1 k2 k3
  refine ⟨g, unr A g (0 + 4096) 4096 i, by rw [← h.un, k1], h.bio.gl, hno, h.kp.trans (hk.mono (fun k _ e => .inl (.inl e))), g, 0 + 4096, 0, 4096, ⟨4096, i, err, x2, x3, pr, h.bio.turn hk k3 (by simpa using hb), rfl, h.eok⟩, by rw [h.bio.gl], by rw [h.bio.gl]; exact Nat.le_refl _, Nat.le_refl _, by rw [h.bio.gl]; exact Nat.le_refl _, by rw [h.bio.gl]; exact k2⟩
/-- The end, and no newline in what is left. -/
theorem rs_end {w wr : World} {A : RA} {ae : Addr} {U g : Bs} {r wp i : Nat} {err : Value} {lb lr pr : Int} {s : Nat} (h : RSst w wr A ae U g r wp i err lb lr pr s) (hno : 10 ∉ (g.take wp).drop r) (he : err ≠ .nilIface) (wx : World) (x2 x3 : Int) (o : Nat) (ho : wp - r ≠ 0 → o = r)
    (hb : Blk wx A.bI 158 #[.slice (some ⟨A.bB, 0, none⟩) 4096 4096, .iface 64 (.pointer (some ⟨A.rB, 0, none⟩)), .int .i64 wp, .int .i64 wp, .nilIface, .int .i64 x2, .int .i64 x3]) (hk : Kp (fun k => k = A.bI) wr wx) (cap : Nat) (hcap : cap = 4096 - r) (n : Nat) (hn : n = wp - r) (ho2 : o ≤ r) :
    ∃ L U' : Bs, U = L ++ U' ∧ L.length = n ∧ U' = [] ∧ 10 ∉ L ∧ RSOut w wx A ae U' L (.slice (some ⟨A.bB, o, none⟩) n cap) := by
  subst hcap hn
  obtain ⟨k1, k2, k3⟩ := seg_cut (A := A) (i := i) (x := (g.take wp).drop r) (y := []) h.bio.gl h.bio.wl h.bio.rw (by rw [List.append_nil])
  have hl := seg_len (r := r) h.bio.gl h.bio.wl
  rw [hl] at k1 k2 k3
  have hi : i = A.D.length := by
    rcases h.eok with e | e
    · exact absurd e he
    · exact e.2
  have hrw := h.bio.rw
  have hwl := h.bio.wl
  have hU : unr A g (r + (wp - r)) wp i = [] := by
    unfold unr
    rw [hi, List.drop_length, List.append_nil, List.drop_of_length_le (by simp; omega)]
  refine ⟨(g.take wp).drop r, unr A g (r + (wp - r)) wp i, by rw [← h.un, k1], hl, hU, hno, h.kp.trans (hk.mono (fun k _ e => .inl (.inl e))), g, r + (wp - r), o, 4096 - r, ⟨wp, i, .nilIface, x2, x3, pr, h.bio.turn hk k3 (by rw [show r + (wp - r) = wp by omega]; exact hb), rfl, .inl rfl⟩, by rw [hl], by rw [hl]; omega, by omega, by rw [hl]; omega, ?_⟩
  rw [hl]
  by_cases h0 : wp - r = 0
  · rw [h0]
    have : (g.take wp).drop r = [] := List.eq_nil_of_length_eq_zero (by rw [hl, h0])
    rw [this, List.take_zero]
  · rw [ho h0]; exact k2
theorem rs_found' {w wr : World} {A : RA} {ae ab : Addr} {U g : Bs} {r wp i : Nat} {err : Value} {lb lr pr : Int} {s : Nat} (h : RSst w wr A ae U g r wp i err lb lr pr s) {a b : Bs} (hs : ((g.take wp).drop r).drop s = a ++ 10 :: b) (ha : 10 ∉ a) (wx : World) (x1 x2 x3 : Int) (h1 : x1 = ((r + (s + a.length + 1) : Nat) : Int)) (n : Nat) (hn : n = s + a.length + 1)
    (e1 : wx.heap = (((wr.setCell ⟨A.bI, 2, none⟩ (.int .i64 x1)).setCell ⟨A.bI, 5, none⟩ (.int .i64 x2)).setCell ⟨A.bI, 6, none⟩ (.int .i64 x3)).heap) (e2 : wx.os = wr.os) (e3 : wx.tape = wr.tape) (e4 : wx.output = wr.output) :
    RSPost w A ae ab U (.returned (.tuple #[.slice (some ⟨A.bB, r, none⟩) n (4096 - r), .nilIface])) wx := by
  obtain ⟨L, U', k1, _, k3, k4⟩ := rs_found h hs ha wx x1 x2 x3 h1 n hn e1 e2 e3 e4
  exact ⟨L, U', _, _, rfl, k1, k4, .inl ⟨rfl, k3⟩⟩
theorem rs_full' {w wr : World} {A : RA} {ae ab : Addr} {U g : Bs} {r wp i : Nat} {err : Value} {lb lr pr : Int} {s : Nat} (h : RSst w wr A ae U g r wp i err lb lr pr s) (hno : 10 ∉ (g.take wp).drop r) (hf : 4096 ≤ wp - r) (wx : World) (x2 x3 : Int)
    (e1 : wx.heap = (((wr.setCell ⟨A.bI, 2, none⟩ (.int .i64 wp)).setCell ⟨A.bI, 5, none⟩ (.int .i64 x2)).setCell ⟨A.bI, 6, none⟩ (.int .i64 x3)).heap) (e2 : wx.os = wr.os) (e3 : wx.tape = wr.tape) (e4 : wx.output = wr.output) :
    RSPost w A ae ab U (.returned (.tuple #[.slice (some ⟨A.bB, 0, none⟩) 4096 4096, ev ab])) wx := by
  obtain ⟨L, U', k1, k2, k3, k4⟩ := rs_full h hno hf wx x2 x3 e1 e2 e3 e4
  exact ⟨L, U', _, _, rfl, k1, k4, .inr (.inr ⟨rfl, k2, k3⟩)⟩
theorem rs_end1 {w wr : World} {A : RA} {ae ab : Addr} {U g : Bs} {r wp i : Nat} {err : Value} {lb lr pr : Int} {s : Nat} (h : RSst w wr A ae U g r wp i err lb lr pr s) (hno : 10 ∉ (g.take wp).drop r) (he : err ≠ .nilIface) (wx : World) (x2 x3 : Int)
    (e1 : wx.heap = ((((wr.setCell ⟨A.bI, 2, none⟩ (.int .i64 wp)).setCell ⟨A.bI, 4, none⟩ .nilIface).setCell ⟨A.bI, 5, none⟩ (.int .i64 x2)).setCell ⟨A.bI, 6, none⟩ (.int .i64 x3)).heap) (e2 : wx.os = wr.os) (e3 : wx.tape = wr.tape) (e4 : wx.output = wr.output) :
    RSPost w A ae ab U (.returned (.tuple #[.slice (some ⟨A.bB, r, none⟩) (wp - r) (4096 - r), ev ae])) wx := by
  have hk : Kp (fun k => k = A.bI) wr wx := Kp.heap (((((Kp.refl (fun k => k = A.bI) wr).setCell (p := ⟨A.bI, 2, none⟩) (.inl rfl) _).setCell (p := ⟨A.bI, 4, none⟩) (.inl rfl) _).setCell (p := ⟨A.bI, 5, none⟩) (.inl rfl) _).setCell (p := ⟨A.bI, 6, none⟩) (.inl rfl) _) e1 e2 e3 e4
  have hb := ((((h.bio.bio.store 2 (.int .i64 wp)).store 4 .nilIface).store 5 (.int .i64 x2)).store 6 (.int .i64 x3)).heap e1
  obtain ⟨L, U', k1, k2, k3, k4, k5⟩ := rs_end h hno he wx x2 x3 r (fun _ => rfl) (by simpa using hb) hk _ rfl _ rfl (Nat.le_refl _)
  exact ⟨L, U', _, _, rfl, k1, k5, .inr (.inl ⟨rfl, k3, k4⟩)⟩
theorem rs_end0 {w wr : World} {A : RA} {ae ab : Addr} {U g : Bs} {r wp i : Nat} {err : Value} {lb lr pr : Int} {s : Nat} (h : RSst w wr A ae U g r wp i err lb lr pr s) (hno : 10 ∉ (g.take wp).drop r) (he : err ≠ .nilIface) (hlt : r = wp) (wx : World) (o : Nat) (ho : o ≤ r) (n cap : Nat) (hn : n = wp - r) (hcap : cap = 4096 - r)
    (e1 : wx.heap = ((wr.setCell ⟨A.bI, 2, none⟩ (.int .i64 wp)).setCell ⟨A.bI, 4, none⟩ .nilIface).heap) (e2 : wx.os = wr.os) (e3 : wx.tape = wr.tape) (e4 : wx.output = wr.output) :
    RSPost w A ae ab U (.returned (.tuple #[.slice (some ⟨A.bB, o, none⟩) n cap, ev ae])) wx := by
  have hk : Kp (fun k => k = A.bI) wr wx := Kp.heap (((Kp.refl (fun k => k = A.bI) wr).setCell (p := ⟨A.bI, 2, none⟩) (.inl rfl) _).setCell (p := ⟨A.bI, 4, none⟩) (.inl rfl) _) e1 e2 e3 e4
  have hb := ((h.bio.bio.store 2 (.int .i64 wp)).store 4 .nilIface).heap e1
  obtain ⟨L, U', k1, k2, k3, k4, k5⟩ := rs_end h hno he wx lb lr o (fun hn => absurd (by omega) hn) (by simpa using hb) hk _ hcap _ hn ho
  exact ⟨L, U', _, _, rfl, k1, k5, .inr (.inl ⟨rfl, k3, k4⟩)⟩
end Go.Proofs.Qxb6615582aGreatFmt
