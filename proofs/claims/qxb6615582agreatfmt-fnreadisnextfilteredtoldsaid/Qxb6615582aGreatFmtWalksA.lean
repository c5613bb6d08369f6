import Derived.Test.Qxb6615582aGreatFmtBase
import Derived.Deep.RegionLaw
import Derived.Deep.DeepCutAuto
namespace Go.Proofs.Qxb6615582aGreatFmt
open Go.RowKit

theorem add_none (g o i : Nat) : (⟨g, o, none⟩ : Addr).add i = ⟨g, o + i, none⟩ := by unfold Addr.add; split <;> simp_all
/-- copy inside a region that draws: every other block is kept. -/
theorem step_copy_kp {P : Program} {ops : Array Oper} {o : Oper} {a : Act} {w : World} {K : Act → World → Prop} {Q : Exit → Act → World → Prop} {E : Prop} (hgd : o.guard = none) (d s : Operand) (dT sT : TypeId)
    (ho : o.op = .call { callee := .builtin .copy, args := #[d, s], argTypes := #[dT, sT] }) (elem : TypeId) (hu : P.underlying dT = some (.slice elem)) (hsz : (P.info? elem).map (·.size) = some 1)
    (dp sp : Option Addr) (dLen dCap sLen sCap : Nat) (hd : a.eval d = .slice dp dLen dCap) (hs : a.eval s = .slice sp sLen sCap)
    (g off : Nat) (cur : List Value) (t : TypeId) (hg : Blk w g t cur.toArray) (cs : List Value) (hn : cs.length = Nat.min sLen dLen)
    (hpos : 0 < cs.length → dp = some ⟨g, off, none⟩ ∧ ∃ ad, sp = some ad ∧ ∀ j v, cs[j]? = some v → w.cell? (ad.add j) = some v)
    (hfit : off + cs.length ≤ cur.length) (h1 : ∀ v ∈ cs, v.oneCell' = true)
    (h : ∀ w', Hid (Blk w' g t (splice cur off cs).toArray) → Hid (Kp (fun k => k = g) w w') → K (a.put o.dst (goInt cs.length)) w') :
    if Region.wanted o (yielded ops a.tmps) = true then Oper.wp P o a w K Q else E := by
  have hw : Region.wanted o (yielded ops a.tmps) = true := by simp [Region.wanted, hgd]
  rw [if_pos hw]
  by_cases h0 : cs.length = 0
  · obtain rfl : cs = [] := List.eq_nil_of_length_eq_zero h0
    have hrun := run_copy_none (P := P) w dT sT o.type elem dp sp dLen dCap sLen sCap hu hsz (by simpa using hn.symm)
    unfold Oper.wp
    simp [execOp, ho, resolve, invoke, builtin, hd, hs, hrun, Result.andThen]
    exact h w (show Blk _ _ _ _ by simpa [splice] using hg) (Kp.refl _ _)
  · obtain ⟨rfl, ad, rfl, hsrc⟩ := hpos (by omega)
    have hrun := run_copy_row (P := P) w dT sT o.type elem g off dLen dCap ad sLen sCap cur.toArray t cs hu hsz hg hn hsrc (by simpa using hfit) h1
    unfold Oper.wp
    simp [execOp, ho, resolve, invoke, builtin, hd, hs, hrun, Result.andThen]
    exact h _ (show _ = _ by simpa [splice] using setRow_heap w g _ _ t _ hg) ⟨rfl, rfl, rfl, by simp [World.setRow], fun k _ hk => setRow_other w g k _ hk⟩

/-- What bytes.Reader.Read leaves where there is text. -/
structure ReadOut (w w' : World) (rB bB off : Nat) (sv : Value) (cur : List Value) (i m : Nat) (D : Bs) : Prop where
  rd : Blk w' rB 93 #[sv, .int .i64 ((i + m : Nat) : Int), .int .i64 (-1)]
  buf : Blk w' bB 5 (splice cur off (bcs ((D.drop i).take m))).toArray
  kp : Kp (fun k => k = rB ∨ k = bB) w w'

set_option maxRecDepth 100000 in
set_option maxHeartbeats 1000000 in
theorem bytesRead_end {w : World} {rB i cap : Nat} {ao po : Option Addr} {pn pc : Nat} {D : Bs} {pr : Int} {ve : Value} (hr : Blk w rB 93 #[.slice ao D.length cap, .int .i64 i, .int .i64 pr]) (hi : D.length ≤ i) (he : w.cell? ⟨0, 0, none⟩ = some ve) :
    Calls Tryz.prog 117 #[.pointer (some ⟨rB, 0, none⟩), .slice po pn pc] w fun e w' => e = .returned (.tuple #[.int .i64 0, ve]) ∧ ∃ k, w' = w.drewN k := by
  have c0 := hr.cell (k := 0) rfl
  have c1 := hr.cell (k := 1) rfl
  have hi' : (D.length : Int) ≤ i := by omega
  have Hr := hide hr
  clear hr
  go_enter Tryz.func117, Tryz.ntmps117
  go_wp2
  go_region
  all_goals
    go_wp2
    go_region
  all_goals
    go_wp2
    go_ret2
    first | exact ⟨rfl, 2, rfl⟩ | exact ⟨rfl, 1, rfl⟩ | exact ⟨rfl, 3, rfl⟩

set_option maxRecDepth 100000 in
set_option maxHeartbeats 1000000 in
theorem bytesRead_c {w : World} {rB bB off n pc i cap sb so : Nat} {D : Bs} {pr : Int} {cur : List Value} (hr : Blk w rB 93 #[.slice (some ⟨sb, so, none⟩) D.length cap, .int .i64 i, .int .i64 pr]) (hcap : D.length ≤ cap) (hcap2 : cap ≤ 9223372036854775807) (hi : i < D.length) (hD : D.length ≤ 2097152)
    (hsrc : ∀ j (h : j < D.length), w.cell? ⟨sb, so + j, none⟩ = some (.int .u8 D[j].toNat)) (hb : Blk w bB 5 cur.toArray) (hlen : off + n ≤ cur.length) (hn : n ≤ 9223372036854775807) (hrb : rB ≠ bB) (hsr : sb ≠ rB) :
    Calls Tryz.prog 117 #[.pointer (some ⟨rB, 0, none⟩), .slice (some ⟨bB, off, none⟩) n pc] w fun e w' => e = .returned (.tuple #[.int .i64 ((min (D.length - i) n : Nat) : Int), .nilIface]) ∧ ReadOut w w' rB bB off (.slice (some ⟨sb, so, none⟩) D.length cap) cur i (min (D.length - i) n) D := by
  have c0 : w.cell? ⟨rB, 0, none⟩ = some (.slice (some ⟨sb, so, none⟩) D.length cap) := hr.cell rfl
  have c1 : w.cell? ⟨rB, 1, none⟩ = some (.int .i64 i) := hr.cell rfl
  have c2 : w.cell? ⟨rB, 2, none⟩ = some (.int .i64 pr) := hr.cell rfl
  have f1 := hr.free 1
  have f2 := hr.free 2
  have hi' : ¬ (D.length : Int) ≤ i := by omega
  have hi2 : (i : Int) ≤ D.length := by omega
  have hi3 : (i : Int) < cap := by omega
  obtain ⟨m, hm⟩ : ∃ m, min (D.length - i) n = m := ⟨_, rfl⟩
  have hm1 : m ≤ D.length - i := by omega
  have hm2 : m ≤ n := by omega
  have Hm := hide hm
  rw [hm]
  clear hm
  obtain ⟨cs, hcs⟩ : ∃ cs, cs = bcs ((D.drop i).take m) := ⟨_, rfl⟩
  have Hcs := hide hcs
  clear hcs
  have hcl : cs.length = m := by rw [Hcs.out, bcs_length]; simp; omega
  have hone : Hid (∀ v ∈ cs, v.oneCell' = true) := by
    intro v hv
    rw [Hcs.out] at hv
    simp only [bcs, List.mem_map] at hv
    obtain ⟨c, _, rfl⟩ := hv
    rfl
  have hget : Hid (∀ j v, cs[j]? = some v → w.cell? ⟨sb, so + i + j, none⟩ = some v) := by
    intro j v hj
    rw [Hcs.out] at hj
    have hjl : j < m := by
      have := (List.getElem?_eq_some_iff.1 hj).1
      rw [bcs_length] at this
      simp at this
      omega
    have h1 := hsrc (i + j) (by omega)
    rw [Nat.add_assoc, h1, ← hj, bcs_at _ (by simp; omega)]
    simp
  have Hr := hide hr
  have Hb := hide hb
  have hblk : Hid (Blk (w.setCell ⟨rB, 2, none⟩ (.int .i64 (-1))) bB 5 cur.toArray) := hb.other (by exact hrb.symm) _
  have hgetw : Hid (∀ j v, cs[j]? = some v → (w.setCell ⟨rB, 2, none⟩ (.int .i64 (-1))).cell? (Addr.add ⟨sb, so + i, none⟩ j) = some v) := by
    intro j v hj
    rw [add_none]
    rw [World.cell?_setCell_other _ _ _ _ (by simp)]
    exact hget.out j v hj
  have hci : ¬ cap = i := by omega
  clear hr hb hsrc hget
  go_enter Tryz.func117, Tryz.ntmps117
  go_wp2
  go_region
  go_wp2
  go_region_law (refine step_copy_kp rfl (.tmp 20) (.tmp 29) 22 22 rfl 5 Tryz.underlying22 Tryz.info5' (some ⟨bB, off, none⟩) (some ⟨sb, so + i, none⟩) n pc (D.length - i) (cap - i) (by simp [Act.eval, Act.put]) (by simp [Act.eval, Act.put]) bB off cur 5 hblk.out cs (by rw [hcl]; exact Hm.out.symm) (fun _ => ⟨rfl, _, rfl, hgetw.out⟩) (by omega) hone.out ?_; intro w2 hb2 hk2)
  all_goals
    have hk3 : Hid (Kp (fun k => k = bB) (w.setCell ⟨rB, 2, none⟩ (.int .i64 (-1))) w2) := hk2.out.undrew.undrew
    have hr2 : Blk w2 rB 93 #[.slice (some ⟨sb, so, none⟩) D.length cap, .int .i64 i, .int .i64 (-1)] := Blk.kept (F := fun k => k = bB) (Hr.out.store 2 (.int .i64 (-1))) hk3.out hrb
    have d1 : w2.cell? ⟨rB, 1, none⟩ = some (.int .i64 i) := hr2.cell rfl
    have e1 := hr2.free 1
    have Hr2 := hide hr2
    clear hr2 c0 c1 c2 f1 f2
    go_wp2
    go_ret2
    refine ⟨rfl, ?_, ?_, ?_⟩
    · have := Hr2.out.store 1 (.int .i64 ((i : Int) + m))
      simpa using this
    · rw [← Hcs.out]
      exact hb2.out.other (by exact hrb.symm) _
    · exact (((Kp.refl (fun k => k = rB ∨ k = bB) w).setCell (p := ⟨rB, 2, none⟩) (.inl (.inl rfl)) _).trans (hk3.out.mono (fun k _ e => Or.inl (Or.inr e)))).setCell (p := ⟨rB, 1, none⟩) (.inl (.inl rfl)) _
end Go.Proofs.Qxb6615582aGreatFmt
