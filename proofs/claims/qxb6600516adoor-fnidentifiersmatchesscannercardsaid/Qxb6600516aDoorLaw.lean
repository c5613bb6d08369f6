import Derived.Test.Qxb6600516aDoorWalksC
namespace Go.Proofs.Qxb6600516aDoor
open Go.RowKit

set_option maxRecDepth 100000 in
set_option maxHeartbeats 400000 in
theorem zzIdentifiers_any (s : ByteArray) (nz : Bool) (hn : s.size ≤ 65536) (m : Int) (w : World) (hm : w.cell? ⟨0, 0, none⟩ = some (.int .i64 m)) :
    Calls Tryd.prog 10 #[.string s, .bool nz] w fun e w' => e = .returned (.bool ((sd s.data.toList).all (pcOK nz))) ∧ Below w.heap.size w w' := by
  have H := hide (identifiers_any s nz hn m w hm)
  go_enter Tryd.func10, Tryd.ntmps10
  go_wp2_with fail
  refine H.out.mono ?_
  rintro e w' ⟨rfl, hb⟩
  have Hb := hide hb
  clear hb
  go_wp2
  go_ret
  exact ⟨rfl, Hb.out⟩

set_option maxRecDepth 100000 in
set_option maxHeartbeats 400000 in
theorem law_any (s : ByteArray) (nz : Bool) (m : Int) (w : World) (hm : w.cell? ⟨0, 0, none⟩ = some (.int .i64 m)) :
    Calls Tryd.prog 3 #[.string s, .bool nz] w fun e w' => e = .returned (.bool true) ∧ Below w.heap.size w w' := by
  by_cases h1 : s.size ≤ 1048576
  · by_cases h2 : s.size ≤ 65536
    · have h2' : (s.size : Int) ≤ 65536 := by omega
      have H := hide (zzIdentifiers_any s nz h2 m w hm)
      clear hm
      go_enter Tryd.func3, Tryd.ntmps3
      go_wp2_with (go_at_call 9; refine (zzBytes_any _ _ h1 _).mono ?_; rintro e w' ⟨rfl, hw⟩; obtain rfl := hw.symm; clear hw)
      refine H.out.mono ?_
      rintro e w' ⟨rfl, hb⟩
      have Hb := hide hb
      clear hb
      go_wp2_with fail
      refine (model_any s nz h2 _).mono ?_
      rintro e w'' ⟨rfl, hw⟩
      obtain rfl := hw.symm
      clear hw
      rw [md_sd]
      go_wp2
      go_ret
      exact ⟨ret_bool (by simp), Hb.out⟩
    · have h2' : 65536 < (s.size : Int) := by omega
      go_enter Tryd.func3, Tryd.ntmps3
      go_wp2_with (go_at_call 9; refine (zzBytes_any _ _ h1 _).mono ?_; rintro e w' ⟨rfl, rfl⟩)
      go_ret
      exact ⟨rfl, Below.refl _ _⟩
  · go_enter Tryd.func3, Tryd.ntmps3
    go_wp2_with (go_at_call 9; refine (zzBytes_no _ _ h1 _).mono ?_; rintro e w' ⟨rfl, rfl⟩)
    go_ret
    exact ⟨rfl, Below.refl _ _⟩
end Go.Proofs.Qxb6600516aDoor
