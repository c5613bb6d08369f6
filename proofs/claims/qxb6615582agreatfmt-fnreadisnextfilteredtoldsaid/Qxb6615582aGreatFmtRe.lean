import Derived.Test.Qxb6615582aGreatFmtLvd
import Derived.Test.Qxb6615582aGreatFmtLvc

namespace Go.Proofs.Qxb6615582aGreatFmt
open Go.RowKit
attribute [local go_sem] Go.wp_at_zero Go.wp_at_succ
section
variable {w0 : World} {T0 : Nat → Nat} {w : World} {T : Nat → Nat} {A : RA} {cB : Nat} {ae ab aq abq : Addr} {N st pB qB : Nat} {U : Bs} {n : Nat} {off : Int} {rb : Value} {ar : Option Addr} {cr : Nat} {af : Option Addr} {cf : Nat} {ap : Option Addr} {cp : Nat} {ps : List (Int × Int)} {pl pc ql qc : Int} {fs : List Bs} {X : Out} {l buf : Bs} {b o cap N1 : Nat} {R : Bs} {ix : List Nat} {f : Nat → Value} {J R2 R3 : Act → World → Prop}
set_option maxRecDepth 1000000 in
set_option maxHeartbeats 8000000 in
theorem rE (h0 : f 0 = .pointer (some ⟨cB, 0, none⟩)) (h1 : f 1 = .slice none 0 0) (h6 : f 6 = .slice (some ⟨b, o, none⟩) N1 cap) (h7 : f 7 = .nilIface) (h8 : f 8 = .nilIface) (h9 : f 9 = .int .i64 1) (h10 : f 10 = .int .i64 st) (h11 : f 11 = .pointer (some ⟨pB, 0, none⟩)) (h17 : f 17 = .pointer (some ⟨qB, 0, none⟩))
    (hW : Wk w0 T0 w T A cB ae (N + 1) st pB U n off rb ar cr af cf ap cp R ix ps pl pc) (hR : R = fs.flatten ++ buf) (hix : ix = cumF 0 fs) (ph : ∀ p, ps.head? = some p → p.1 = (st : Int)) (hlen : ps.length = fs.length) (htot : R.length + fs.length + l.length + U.length ≤ 2000000) (hlv : Lv w T (.slice (some ⟨b, o, none⟩) N1 cap) l) (hqd : Qd X l U buf fs n) (hg : G0 w0 T0 ae ab aq abq) (hle : l = [])
    (hR2 : ∀ a' w', ID w0 T0 A cB ae aq abq N st pB X a' w' → R2 a' w') : Code.wp Tryz.prog (bd4 Tryz.f55.body) (Exit.then J (QY R3 R2)) (Fr f) w := by
  subst hle
  obtain ⟨hN1, hcp1, hcp2, -⟩ := hlv.facts
  obtain rfl : N1 = 0 := hN1
  have HI := hide (idx_lv (c := 34) hlv)
  rw [show Lib.indexByte [] 34 = -1 from rfl] at HI
  have c3 : w.cell? ⟨cB, 3, none⟩ = some (.bool false) := hW.cell rfl
  have p0 : w.cell? ⟨pB, 0, none⟩ = some (.int .i64 pl) := hW.pos.blk.cell rfl
  have p1 : w.cell? ⟨pB, 1, none⟩ = some (.int .i64 pc) := hW.pos.blk.cell rfl
  have g1 : w.cell? ⟨1, 0, none⟩ = some (.iface 95 (.pointer (some aq))) := (hg.at_ hW.jx).e1.er.cell
  have HW := hide hW
  have Hqd := hide hqd
  have HR := hide hR
  have Hix := hide hix
  have Hph := hide ph
  have Htot := hide htot
  have Hlen := hide hlen
  clear hW hlv hqd hg hR hix ph htot hlen
  conv => arg 2; whnf
  unfold Fr
  rw [h0, h1, h6, h7, h8, h9, h10, h11, h17]
  clear h0 h1 h6 h7 h8 h9 h10 h11 h17
  go_wp2_with ((go_at_call 74; refine HI.out.mono ?_; rintro e w2 ⟨rfl, hw2⟩; obtain rfl := hw2))
  show R2 _ _
  have htot := Htot.out
  exact hR2 _ _ ⟨⟨rfl, rfl, rfl, rfl, rfl, rfl, rfl⟩, HW.out.errE (z := buf) HR.out Hix.out Hph.out Hlen.out (by omega) _ _ aq (.inl ⟨rfl, Hqd.out.eof⟩) _ _ _ rfl rfl rfl rfl rfl rfl⟩
end
end Go.Proofs.Qxb6615582aGreatFmt
