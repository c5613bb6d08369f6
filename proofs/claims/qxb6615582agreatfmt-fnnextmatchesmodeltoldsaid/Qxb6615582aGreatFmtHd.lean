import Derived.Test.Qxb6615582aGreatFmtZn2
import Derived.Test.Qxb6615582aGreatFmtLw9
namespace Go.Proofs.Qxb6615582aGreatFmt
open Go.RowKit

set_option maxRecDepth 100000 in
set_option maxHeartbeats 1000000 in
theorem hdr_eof (w : World) (hv cv : Value) (l : Int) : Calls Tryz.prog 14 #[hv, .int .i64 l, .int .i64 1, cv, .bool true, pv false false false 0 .empty false false false] w fun e w' => e = .returned (.bool true) ∧ Kp (fun _ => False) w w' := by
  unfold pv
  go_enter Tryz.func14, Tryz.ntmps14
  go_wp2
  go_ret
  exact ⟨rfl, (Kp.refl _ w).alloc _⟩
set_option maxRecDepth 100000 in
set_option maxHeartbeats 1000000 in
theorem hdr_fault (w : World) (hv cv : Value) (l oc : Int) (q bq : Bool) (h1 : (oc == 1) = false) (h0 : (oc == 0) = false) (hq : (oc == 2) = q) (hb : (oc == 3) = bq) : Calls Tryz.prog 14 #[hv, .int .i64 l, .int .i64 oc, cv, .bool true, pv false false true l .empty false q bq] w fun e w' => e = .returned (.bool true) ∧ Kp (fun _ => False) w w' := by
  have y0 : (oc != 0) = true := by rw [bne_of h0]; rfl
  have HF : Hid (∀ W, Calls Tryz.prog 19 #[.agg #[.bool false, .bool false, .bool true, .int .i64 l, .string ⟨#[]⟩, .bool false, .bool q, .bool bq], .int .i64 l, .string ⟨#[]⟩, .int .i64 oc] W fun e w' => e = .returned (.bool true) ∧ Kp (fun _ => False) W w') := fun W => fieldErr_c W l .empty oc q bq hq hb
  unfold pv
  clear hq hb
  go_enter Tryz.func14, Tryz.ntmps14
  go_wp2_with ((go_at_call 19; refine (HF.out _).mono ?_; rintro e w1 ⟨rfl, hk⟩))
  go_ret
  exact ⟨rfl, ((Kp.refl _ w).alloc _).step hk⟩
set_option maxRecDepth 100000 in
set_option maxHeartbeats 1000000 in
theorem hdr_other {w : World} {ho co : Option Addr} {hc cc' : Nat} {hs cs : List ByteArray} (hS : Sv w ho hs) (hC : Sv w co cs) (h1 : hs.length ≤ 4000000) (h2 : cs.length ≤ 4000000) (hne : hs ≠ cs) (l : Int) : Calls Tryz.prog 14 #[.slice ho hs.length hc, .int .i64 l, .int .i64 0, .slice co cs.length cc', .bool true, pv false false true l .empty false false false] w fun e w' => e = .returned (.bool true) ∧ Kp (fun _ => False) w w' := by
  have HF : Hid (∀ W, Calls Tryz.prog 19 #[.agg #[.bool false, .bool false, .bool true, .int .i64 l, .string ⟨#[]⟩, .bool false, .bool false, .bool false], .int .i64 l, .string ⟨#[]⟩, .int .i64 0] W fun e w' => e = .returned (.bool true) ∧ Kp (fun _ => False) W w') := fun W => fieldErr_c W l .empty 0 false false rfl rfl
  have HE : Hid (∀ o, Calls Tryz.prog 20 #[.slice ho hs.length hc, .slice co cs.length cc'] (w.alloc o) fun e w' => e = .returned (.bool false) ∧ ∃ k, w' = (w.alloc o).drewN k) := fun o => by
    have hk : Kp (fun _ => False) w (w.alloc o) := (Kp.refl _ w).alloc o
    refine (equalS_c (hS.kept hk (fun _ _ _ e => e)) (hC.kept hk (fun _ _ _ e => e)) h1 h2).mono ?_
    rintro e w' ⟨⟨B, rfl, hB⟩, hk2⟩
    cases B
    · exact ⟨rfl, hk2⟩
    · exact absurd (hB.1 rfl) hne
  obtain ⟨m, hm⟩ : ∃ m, m = hs.length := ⟨_, rfl⟩
  obtain ⟨n, hn⟩ : ∃ n, n = cs.length := ⟨_, rfl⟩
  rw [← hm, ← hn] at HE ⊢
  unfold pv
  clear hS hC h1 h2 hne hm hn
  go_enter Tryz.func14, Tryz.ntmps14
  go_wp2_with (first | (go_at_call 20; refine (HE.out _).mono ?_; rintro e w1 ⟨rfl, k, rfl⟩) | (go_at_call 19; refine (HF.out _).mono ?_; rintro e w1 ⟨rfl, hk⟩))
  go_ret
  exact ⟨rfl, (((Kp.refl _ w).alloc _).drewN _).step hk⟩
set_option maxRecDepth 100000 in
set_option maxHeartbeats 1000000 in
theorem hdr_same {w : World} {ho co : Option Addr} {hc cc' : Nat} {hs cs : List ByteArray} (hS : Sv w ho hs) (hC : Sv w co cs) (h1 : hs.length ≤ 4000000) (h2 : cs.length ≤ 4000000) (he : hs = cs) (l : Int) : Calls Tryz.prog 14 #[.slice ho hs.length hc, .int .i64 l, .int .i64 0, .slice co cs.length cc', .bool false, pv true false false 0 .empty false false false] w fun e w' => e = .returned (.bool true) ∧ Kp (fun _ => False) w w' := by
  have HE : Hid (∀ o, Calls Tryz.prog 20 #[.slice ho hs.length hc, .slice co cs.length cc'] (w.alloc o) fun e w' => e = .returned (.bool true) ∧ ∃ k, w' = (w.alloc o).drewN k) := fun o => by
    have hk : Kp (fun _ => False) w (w.alloc o) := (Kp.refl _ w).alloc o
    refine (equalS_c (hS.kept hk (fun _ _ _ e => e)) (hC.kept hk (fun _ _ _ e => e)) h1 h2).mono ?_
    rintro e w' ⟨⟨B, rfl, hB⟩, hk2⟩
    rw [hB.2 he]
    exact ⟨rfl, hk2⟩
  obtain ⟨m, hm⟩ : ∃ m, m = hs.length := ⟨_, rfl⟩
  obtain ⟨n, hn⟩ : ∃ n, n = cs.length := ⟨_, rfl⟩
  rw [← hm, ← hn] at HE ⊢
  unfold pv
  clear hS hC h1 h2 he hm hn
  go_enter Tryz.func14, Tryz.ntmps14
  go_wp2_with ((go_at_call 20; refine (HE.out _).mono ?_; rintro e w1 ⟨rfl, k, rfl⟩))
  go_ret
  exact ⟨rfl, ((Kp.refl _ w).alloc _).drewN _⟩
end Go.Proofs.Qxb6615582aGreatFmt
