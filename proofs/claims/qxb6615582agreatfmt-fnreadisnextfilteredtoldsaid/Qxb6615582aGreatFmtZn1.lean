import Derived.Test.Qxb6615582aGreatFmtNr4
namespace Go.Proofs.Qxb6615582aGreatFmt
open Go.RowKit

theorem results_tmp_cell_row {P : Program} {fn : Func} {u p : Tmp} {ty : TypeId} (h : fn.results = #[.tmp u, .cell p ty]) (tmps : Array Value) (w : World) (g : Nat) (t : TypeId) (cs : Array Value) (fr : Nat × Nat) (d : TypeDesc)
    (hp : tmps.getD p undef = .pointer (some ⟨g, 0, none⟩)) (hg : w.heap[g]? = some (.cells cs t fr))
    (hu : P.underlying ty = some d) (hd : (match d with | .struct _ | .array _ _ => true | _ => false) = true) (hi : (P.info? ty).map (·.size) = some cs.size) :
    (results fn tmps).run P w = .ok (.tuple #[tmps.getD u undef, .agg cs]) w := by
  have hp' : tmps[p]?.getD undef = .pointer (some ⟨g, 0, none⟩) := by simpa using hp
  simp [results, h, hp', asAddr, run_loadVar_row w g t ty cs fr d hg hu hd hi]

/-- An error's parts, whatever it is. -/
structure Ep (w : World) (ve : Value) (b0 b1 b2 : Bool) (l : Int) (c : ByteArray) (b3 b4 b5 : Bool) : Prop where
  calls : ∀ W, Kp (fun _ => False) w W → Calls Tryz.prog 30 #[ve] W (PvPost W (pv b0 b1 b2 l c b3 b4 b5))
theorem ne2_new {w w' : World} {a : Nat} {b : Addr} {t : TypeId} {cs : Array Value} {g : Nat} (hb : Blk w' a t cs) (hn : w.heap.size ≤ a) (he : Er w g b) (hk : Kp (fun _ => False) w w') : Ne2 w' ⟨a, 0, none⟩ b := by
  obtain ⟨ca, ta, h⟩ := he.blk
  have hlt := (Array.getElem?_eq_some_iff.1 h).1
  exact ⟨fun e => by rw [← e] at hlt; simp at hlt; omega, ⟨cs, t, hb⟩, ca, ta, by rw [hk.block _ hlt (fun e => e)]; exact h⟩
theorem ne2_of {w : World} {g1 g2 : Nat} {a b : Addr} (ha : Er w g1 a) (hb : Er w g2 b) (h : a ≠ b) : Ne2 w a b := ⟨h, ha.blk, hb.blk⟩
theorem Ne2.kept {w w' : World} {a b : Addr} (h : Ne2 w a b) (hk : Kp (fun _ => False) w w') : Ne2 w' a b := by
  obtain ⟨h1, ⟨ca, ta, h2⟩, cb, tb, h3⟩ := h
  exact ⟨h1, ⟨ca, ta, by rw [hk.block _ (Array.getElem?_eq_some_iff.1 h2).1 (fun e => e)]; exact h2⟩, cb, tb, by rw [hk.block _ (Array.getElem?_eq_some_iff.1 h3).1 (fun e => e)]; exact h3⟩
theorem ep_nil (w : World) : Ep w .nilIface true false false 0 .empty false false false := ⟨fun W _ => parts_nil W⟩
theorem ep_eof {B : Nat} {w : World} {ae ab aq abq : Addr} (hg : Gw B w ae ab aq abq) : Ep w (ev ae) false true false 0 .empty false false false :=
  ⟨fun W hk => parts_str W ae ae true (hg.kept hk (fun _ _ e => e)).e0.cell (.inl ⟨rfl, rfl⟩)⟩
theorem ep_new {B : Nat} {w : World} {a ae ab aq abq : Addr} (hg : Gw B w ae ab aq abq) (hn : Ne2 w a ae) : Ep w (.iface 95 (.pointer (some a))) false false false 0 .empty false false false :=
  ⟨fun W hk => parts_str W a ae false (hg.kept hk (fun _ _ e => e)).e0.cell (.inr ⟨rfl, hn.kept hk⟩)⟩
theorem ep_fe {B : Nat} {w : World} {ae ab aq abq a : Addr} {fe : Nat} {l : Int} {c : ByteArray} {q bq : Bool} (hg : Gw B w ae ab aq abq) (hf : Blk w fe 79 #[.int .i64 l, .string c, .iface 95 (.pointer (some a))]) (hq : (q = true ∧ a = aq) ∨ (q = false ∧ Ne2 w a aq)) (hb : (bq = true ∧ a = abq) ∨ (bq = false ∧ Ne2 w a abq)) : Ep w (.iface 76 (.pointer (some ⟨fe, 0, none⟩))) false false true l c false q bq :=
  ⟨fun W hk => by
    have hgk := hg.kept hk (fun _ _ e => e)
    exact parts_fe W fe a ae aq abq q bq l c hgk.e0.cell hgk.e1.cell hgk.e2.cell (hf.kept hk (fun e => e)) (by rcases hq with h | h; exact .inl h; exact .inr ⟨h.1, h.2.kept hk⟩) (by rcases hb with h | h; exact .inl h; exact .inr ⟨h.1, h.2.kept hk⟩)⟩
theorem ep_fault {B : Nat} {w : World} {ae ab aq abq a : Addr} {fe : Nat} {l : Int} {oc : Nat} (hg : Gw B w ae ab aq abq) (hf : Blk w fe 79 #[.int .i64 l, .string .empty, ev a]) (ho : (a = aq ∧ oc = 2) ∨ (a = abq ∧ oc = 3)) : Ep w (.iface 76 (.pointer (some ⟨fe, 0, none⟩))) false false true l .empty false (oc == 2) (oc == 3) := by
  rcases ho with ⟨rfl, rfl⟩ | ⟨rfl, rfl⟩
  · exact ep_fe hg hf (.inl ⟨rfl, rfl⟩) (.inr ⟨rfl, ne2_of hg.e1 hg.e2 hg.neq⟩)
  · exact ep_fe hg hf (.inr ⟨rfl, ne2_of hg.e2 hg.e1 (fun e => hg.neq e.symm)⟩) (.inl ⟨rfl, rfl⟩)

/-- What ZZNewReader answers. -/
def ZnPost (w : World) (sb : Option Addr) (cols : Value) (cs : List ByteArray) (N : Nat) (ae : Addr) (X : Out × Nat) (e : Ending) (w' : World) : Prop :=
  ∃ v P, e = .returned (.tuple #[v, P]) ∧ Kp (fun _ => False) w w' ∧
    ((X.1.oc = 1 ∧ v = .pointer none ∧ P = pv false false false 0 .empty false false false) ∨
     ((X.1.oc = 2 ∨ X.1.oc = 3) ∧ v = .pointer none ∧ P = pv false false true X.2 .empty false (X.1.oc == 2) (X.1.oc == 3)) ∨
     (X.1.oc = 0 ∧ fsb X.1.fs ≠ cs ∧ v = .pointer none ∧ P = pv false false true X.2 .empty false false false) ∨
     (X.1.oc = 0 ∧ fsb X.1.fs = cs ∧ P = pv true false false 0 .empty false false false ∧ ∃ nB T, v = .pointer (some ⟨nB, 0, none⟩) ∧ Rdr w.heap.size w' T nB sb cols X.1.rest X.1.ln N ae))
/-- NewReader's answer with its error's parts; the result's own cell c0 is written behind it. -/
theorem nr_parts {B c0 : Nat} {w : World} {sb : Option Addr} {cols : Value} {cs : List ByteArray} {N : Nat} {ae ab aq abq : Addr} {X : Out × Nat} {e : Ending} {w' : World} (hg : Gw B w ae ab aq abq) (h : NrPost w sb cols cs N ae aq abq X e w') (hc0 : c0 < w.heap.size) (hsb : ∀ b o, sb = some ⟨b, o, none⟩ → b ≠ c0) :
    ∃ v ve b0 b1 b2 l c b3 b4 b5, e = .returned (.tuple #[v, ve]) ∧ Kp (fun _ => False) w w' ∧ Ep w' ve b0 b1 b2 l c b3 b4 b5 ∧ ∀ wx, Kp (fun k => k = c0) w' wx → ∀ w0, w0.heap.size ≤ c0 → Kp (fun _ => False) w0 w → ZnPost w0 sb cols cs N ae X (.returned (.tuple #[v, pv b0 b1 b2 l c b3 b4 b5])) wx := by
  obtain ⟨v, ve, rfl, hk, hc⟩ := h
  have hg' := hg.kept hk (fun _ _ e => e)
  have hkx : ∀ w0 wx : World, w0.heap.size ≤ c0 → Kp (fun _ => False) w0 w → Kp (fun k => k = c0) w' wx → Kp (fun _ => False) w0 wx := fun w0 wx hs h0 hx => (h0.step hk).trans (hx.mono (fun k _ e => .inr (by omega)))
  rcases hc with ⟨h1, h2, a, S, h3, h4, h5⟩ | ⟨h1, fe, a, h2, h3, h4⟩ | ⟨h1, h2, h3, fe, a, S, h4, h5, h6, h7⟩ | ⟨h1, h2, h3, nB, T, h4, h5⟩
  · subst h2 h4
    exact ⟨_, _, _, _, _, _, _, _, _, _, rfl, hk, ep_new hg' (ne2_new h5 h3 hg.e0 hk), fun wx hx w0 hs h0 => ⟨_, _, rfl, hkx w0 wx hs h0 hx, .inl ⟨h1, rfl, rfl⟩⟩⟩
  · subst h1 h2
    exact ⟨_, _, _, _, _, _, _, _, _, _, rfl, hk, ep_fault hg' h3 h4, fun wx hx w0 hs h0 => ⟨_, _, rfl, hkx w0 wx hs h0 hx, .inr (.inl ⟨by rcases h4 with e | e; exact .inl e.2; exact .inr e.2, rfl, rfl⟩)⟩⟩
  · subst h3 h5
    exact ⟨_, _, _, _, _, _, _, _, _, _, rfl, hk, ep_fe hg' h6 (.inr ⟨rfl, ne2_new h7 h4 hg.e1 hk⟩) (.inr ⟨rfl, ne2_new h7 h4 hg.e2 hk⟩), fun wx hx w0 hs h0 => ⟨_, _, rfl, hkx w0 wx hs h0 hx, .inr (.inr (.inl ⟨h1, h2, rfl, rfl⟩))⟩⟩
  · subst h3 h4
    exact ⟨_, _, _, _, _, _, _, _, _, _, rfl, hk, ep_nil w', fun wx hx w0 hs h0 => ⟨_, _, rfl, hkx w0 wx hs h0 hx, .inr (.inr (.inr ⟨h1, h2, rfl, nB, T, rfl, (h5.kept hx (fun k e => by subst e; exact h5.low _ hc0) (fun e => by have := h5.nb; omega) (fun b o e => hsb b o e)).lower h0.size⟩))⟩⟩
/-- The eight parts laid into their variable. -/
theorem put8 {w : World} {g : Nat} {c0 c1 c2 c3 c4 c5 c6 c7 : Value} (h : Blk w g 32 #[c0, c1, c2, c3, c4, c5, c6, c7]) (v0 v1 v2 v3 v4 v5 v6 v7 : Value) :
    Blk ((((((((w.setCell ⟨g, 0, none⟩ v0).setCell ⟨g, 1, none⟩ v1).setCell ⟨g, 2, none⟩ v2).setCell ⟨g, 3, none⟩ v3).setCell ⟨g, 4, none⟩ v4).setCell ⟨g, 5, none⟩ v5).setCell ⟨g, 6, none⟩ v6).setCell ⟨g, 7, none⟩ v7) g 32 #[v0, v1, v2, v3, v4, v5, v6, v7] ∧
    Kp (fun k => k = g) w ((((((((w.setCell ⟨g, 0, none⟩ v0).setCell ⟨g, 1, none⟩ v1).setCell ⟨g, 2, none⟩ v2).setCell ⟨g, 3, none⟩ v3).setCell ⟨g, 4, none⟩ v4).setCell ⟨g, 5, none⟩ v5).setCell ⟨g, 6, none⟩ v6).setCell ⟨g, 7, none⟩ v7) := by
  have h0 := h.store 0 v0
  rw [show (#[c0, c1, c2, c3, c4, c5, c6, c7] : Array Value).setIfInBounds 0 v0 = #[v0, c1, c2, c3, c4, c5, c6, c7] from rfl] at h0
  have h1 := h0.store 1 v1
  rw [show (#[v0, c1, c2, c3, c4, c5, c6, c7] : Array Value).setIfInBounds 1 v1 = #[v0, v1, c2, c3, c4, c5, c6, c7] from rfl] at h1
  have h2 := h1.store 2 v2
  rw [show (#[v0, v1, c2, c3, c4, c5, c6, c7] : Array Value).setIfInBounds 2 v2 = #[v0, v1, v2, c3, c4, c5, c6, c7] from rfl] at h2
  have h3 := h2.store 3 v3
  rw [show (#[v0, v1, v2, c3, c4, c5, c6, c7] : Array Value).setIfInBounds 3 v3 = #[v0, v1, v2, v3, c4, c5, c6, c7] from rfl] at h3
  have h4 := h3.store 4 v4
  rw [show (#[v0, v1, v2, v3, c4, c5, c6, c7] : Array Value).setIfInBounds 4 v4 = #[v0, v1, v2, v3, v4, c5, c6, c7] from rfl] at h4
  have h5 := h4.store 5 v5
  rw [show (#[v0, v1, v2, v3, v4, c5, c6, c7] : Array Value).setIfInBounds 5 v5 = #[v0, v1, v2, v3, v4, v5, c6, c7] from rfl] at h5
  have h6 := h5.store 6 v6
  rw [show (#[v0, v1, v2, v3, v4, v5, c6, c7] : Array Value).setIfInBounds 6 v6 = #[v0, v1, v2, v3, v4, v5, v6, c7] from rfl] at h6
  have h7 := h6.store 7 v7
  rw [show (#[v0, v1, v2, v3, v4, v5, v6, c7] : Array Value).setIfInBounds 7 v7 = #[v0, v1, v2, v3, v4, v5, v6, v7] from rfl] at h7
  exact ⟨h7,
   ((((((((Kp.refl (fun k => k = g) w).setCell (p := ⟨g, 0, none⟩) (.inl rfl) v0).setCell (p := ⟨g, 1, none⟩) (.inl rfl) v1).setCell (p := ⟨g, 2, none⟩) (.inl rfl) v2).setCell (p := ⟨g, 3, none⟩) (.inl rfl) v3).setCell (p := ⟨g, 4, none⟩) (.inl rfl) v4).setCell (p := ⟨g, 5, none⟩) (.inl rfl) v5).setCell (p := ⟨g, 6, none⟩) (.inl rfl) v6).setCell (p := ⟨g, 7, none⟩) (.inl rfl) v7⟩
set_option maxRecDepth 100000 in
set_option maxHeartbeats 2000000 in
theorem zzNewReader_c {B : Nat} {w : World} {F : Go.Stop.Interp} (hF : F.answers w.tape) {dao : Option Addr} {D : Bs} {dc : Nat} (hD : Tx w dao D) (hl : D.length ≤ 1048576) (hc : D.length ≤ dc) (hc2 : dc ≤ 9223372036854775807)
    {co : Option Addr} {cc' : Nat} {cs : List ByteArray} (hS : Sv w co cs) (hcs : cs.length ≤ 1048576) (hz : ∀ s ∈ cs, s.size ≤ 1048576) (hcc : cs.length ≤ cc') {ae ab aq abq : Addr} (hg : Gw B w ae ab aq abq) (hB : B ≤ w.heap.size) (hdb : ∀ b o, dao = some ⟨b, o, none⟩ → b < w.heap.size) :
    Calls Tryz.prog 13 #[.slice dao D.length dc, .slice co cs.length cc'] w (ZnPost w dao (.slice co cs.length cc') cs ((body D).length + 2) ae (recd (norm (body D)) 1)) := by
  have HN : Hid (∀ o : Obj, Calls Tryz.prog 29 #[.slice dao D.length dc, .slice co cs.length cc'] (w.alloc o) (NrPost (w.alloc o) dao (.slice co cs.length cc') cs ((body D).length + 2) ae aq abq (recd (norm (body D)) 1))) := fun o => by
    have hk : Kp (fun _ => False) w (w.alloc o) := (Kp.refl _ w).alloc o
    exact newReader_c (B := B) (F := F) (by rw [hk.tape]; exact hF) (hD.kept hk) hl hc hc2 (hS.kept hk (fun _ _ _ e => e)) hcs hz hcc (hg.kept hk (fun _ _ e => e)) (Nat.le_trans hB hk.size)
  have HP : Hid (∀ (o : Obj) (e : Ending) (w' : World), NrPost (w.alloc o) dao (.slice co cs.length cc') cs ((body D).length + 2) ae aq abq (recd (norm (body D)) 1) e w' → ∃ v ve b0 b1 b2 l c b3 b4 b5, e = .returned (.tuple #[v, ve]) ∧ Kp (fun _ => False) (w.alloc o) w' ∧ Ep w' ve b0 b1 b2 l c b3 b4 b5 ∧ ∀ wx, Kp (fun k => k = w.heap.size) w' wx → ZnPost w dao (.slice co cs.length cc') cs ((body D).length + 2) ae (recd (norm (body D)) 1) (.returned (.tuple #[v, pv b0 b1 b2 l c b3 b4 b5])) wx) := fun o e w' h => by
    have hk : Kp (fun _ => False) w (w.alloc o) := (Kp.refl _ w).alloc o
    obtain ⟨v, ve, b0, b1, b2, l, c, b3, b4, b5, h1, h2, h3, h4⟩ := nr_parts (c0 := w.heap.size) (hg.kept hk (fun _ _ e => e)) h (by simp) (fun b o e => by have := hdb b o e; omega)
    exact ⟨v, ve, b0, b1, b2, l, c, b3, b4, b5, h1, h2, h3, fun wx hx => h4 wx hx w (Nat.le_refl _) hk⟩
  obtain ⟨R, hR⟩ : ∃ R, R = ZnPost w dao (.slice co cs.length cc') cs ((body D).length + 2) ae (recd (norm (body D)) 1) := ⟨_, rfl⟩
  rw [← hR] at HP ⊢
  obtain ⟨Q, hQ⟩ : ∃ Q : Obj → Ending → World → Prop, Q = fun o => NrPost (w.alloc o) dao (.slice co cs.length cc') cs ((body D).length + 2) ae aq abq (recd (norm (body D)) 1) := ⟨_, rfl⟩
  have HN2 : Hid (∀ o : Obj, Calls Tryz.prog 29 #[.slice dao D.length dc, .slice co cs.length cc'] (w.alloc o) (Q o)) := by rw [hQ]; exact HN.out
  have HP2 : Hid (∀ (o : Obj) (e : Ending) (w' : World), Q o e w' → ∃ v ve b0 b1 b2 l c b3 b4 b5, e = .returned (.tuple #[v, ve]) ∧ Kp (fun _ => False) (w.alloc o) w' ∧ Ep w' ve b0 b1 b2 l c b3 b4 b5 ∧ ∀ wx, Kp (fun k => k = w.heap.size) w' wx → R (.returned (.tuple #[v, pv b0 b1 b2 l c b3 b4 b5])) wx) := by rw [hQ]; exact HP.out
  obtain ⟨dl, hdl⟩ : ∃ dl, dl = D.length := ⟨_, rfl⟩
  obtain ⟨cl, hcl⟩ : ∃ cl, cl = cs.length := ⟨_, rfl⟩
  rw [← hdl, ← hcl] at HN2 ⊢
  clear hQ hR HN HP hD hl hc hc2 hS hcs hz hcc hg hB hF hdl hcl hdb
  go_enter Tryz.func13, Tryz.ntmps13
  go_wp2_with (first | (go_at_call 29; refine (HN2.out _).mono ?_; rintro e w1 hp; obtain ⟨v, ve, b0, b1, b2, l, c, b3, b4, b5, rfl, hk1, hep, hfin⟩ := HP2.out _ _ _ hp; clear hp; have Hk1 := hide hk1; have Hep := hide hep; have Hfin := hide hfin; clear hk1 hep hfin) | (go_at_call 30; refine (Hep.out.calls _ (Kp.refl _ _)).mono ?_; rintro e w2 ⟨rfl, hk2⟩; have Hk2 := hide hk2; have Hb2 : Hid (Blk w2 w.heap.size 32 #[.bool false, .bool false, .bool false, .int .i64 0, .string .empty, .bool false, .bool false, .bool false]) := ((Blk.new w 32 #[.bool false, .bool false, .bool false, .int .i64 0, .string .empty, .bool false, .bool false, .bool false]).kept Hk1.out (fun e => e)).kept hk2 (fun e => e); have c0 := Hb2.out.cell (k := 0) rfl; have c1 := Hb2.out.cell (k := 1) rfl; have c2 := Hb2.out.cell (k := 2) rfl; have c3 := Hb2.out.cell (k := 3) rfl; have c4 := Hb2.out.cell (k := 4) rfl; have c5 := Hb2.out.cell (k := 5) rfl; have c6 := Hb2.out.cell (k := 6) rfl; have c7 := Hb2.out.cell (k := 7) rfl; have f0 := Hb2.out.free; clear hk2; unfold pv))
  (try simp only [Exit.inBlock, Exit.then])
  refine bodyPost_ret (results_tmp_cell_row rfl _ _ w.heap.size 32 _ (0, 0) _ rfl (put8 Hb2.out _ _ _ _ _ _ _ _).1 Tryz.underlying32 rfl Tryz.info32) rfl ?_
  exact Hfin.out _ ((Hk2.out.mono (fun _ _ e => e.elim)).trans ((put8 Hb2.out _ _ _ _ _ _ _ _).2.mono (fun _ _ e => .inl e)))
end Go.Proofs.Qxb6615582aGreatFmt
