import Derived.Test.Qxb6615043aDoorWalksB3
import Derived.Test.Qxb6615043aDoorWalksB4
namespace Go.Proofs.Qxb6615043aDoor
open Go.RowKit
section
variable (b off n cap i x0 x1 x2 x3 : Nat) (w : World)

set_option maxRecDepth 100000 in
set_option maxHeartbeats 400000 in
theorem zzDecode_none (hi : (i : Int) < n) (hx : 128 ≤ x0 ∧ (x0 < 194 ∨ 245 ≤ x0)) (_h1 : x1 < 256) (h2 : x2 < 256) (_h3 : x3 < 256) (h0 : x0 < 256)
    (hn : n ≤ 1048576) (c0 : w.cell? ⟨b, off + i, none⟩ = some (.int .u8 x0)) :
    Calls Tryd.prog 17 #[.slice (some ⟨b, off, none⟩) n cap, .int .i64 i] w fun e w' => e = .returned (.tuple #[.int .i32 (Lib.decodeN (n - i) x0 x1 x2 x3).1, .int .i64 (Lib.decodeN (n - i) x0 x1 x2 x3).2]) ∧ ∃ m, w' = w.drewN m := by
  have e : Lib.decodeN (n - i) x0 x1 x2 x3 = (65533, 1) := by
    unfold Lib.decodeN
    repeat' split
    all_goals first | (exfalso; omega) | rfl
  rw [e]; clear e
  obtain ⟨g, hx⟩ := hx
  have g' : ¬ (x0 : Int) < 128 := by omega
  rcases hx with hx | hx
  · have hx' : (x0 : Int) < 194 := by omega
    go_enter Tryd.func17, Tryd.ntmps17
    go_wp2
    go_ret2
    exact ⟨rfl, 0, rfl⟩
  · have hx' : 245 ≤ (x0 : Int) := by omega
    go_enter Tryd.func17, Tryd.ntmps17
    go_wp2
    go_ret2
    exact ⟨rfl, 0, rfl⟩

/-- zzDecode at every lead byte. -/
theorem zzDecode_core (hi : i < n) (hn : n ≤ 1048576) (h0 : x0 < 256) (h1 : x1 < 256) (h2 : x2 < 256) (h3 : x3 < 256)
    (c0 : w.cell? ⟨b, off + i, none⟩ = some (.int .u8 x0)) (c1 : i + 1 < n → w.cell? ⟨b, off + (i + 1), none⟩ = some (.int .u8 x1)) (c2 : i + 2 < n → w.cell? ⟨b, off + (i + 2), none⟩ = some (.int .u8 x2)) (c3 : i + 3 < n → w.cell? ⟨b, off + (i + 3), none⟩ = some (.int .u8 x3)) :
    Calls Tryd.prog 17 #[.slice (some ⟨b, off, none⟩) n cap, .int .i64 i] w fun e w' => e = .returned (.tuple #[.int .i32 (Lib.decodeN (n - i) x0 x1 x2 x3).1, .int .i64 (Lib.decodeN (n - i) x0 x1 x2 x3).2]) ∧ ∃ m, w' = w.drewN m := by
  have hi' : (i : Int) < n := by omega
  by_cases hA : x0 < 128
  · exact zzDecode_ascii b off n cap i x0 x1 x2 x3 w hi' hA c0
  by_cases hB : x0 < 194 ∨ 245 ≤ x0
  · exact zzDecode_none b off n cap i x0 x1 x2 x3 w hi' ⟨by omega, hB⟩ h1 h2 h3 h0 hn c0
  by_cases hC : x0 < 224
  · rw [← Lib.slow_C2 (n - i) x0 x1 x2 x3 (by omega) h1 h2 h3 ⟨by omega, hC⟩]
    exact zzDecode_two b off n cap i x0 x1 x2 x3 w hi' hn ⟨by omega, by omega⟩ h1 c0 c1
  by_cases hD : x0 < 240
  · by_cases hE : x0 = 224
    · rw [← Lib.slow_E0 (n - i) x0 x1 x2 x3 (by omega) h1 h2 h3 hE]
      exact zzDecode_three b off n cap i x0 x1 x2 x3 w 160 191 hi' hn (.inl ⟨hE, rfl, rfl⟩) h1 h2 c0 c1 c2
    by_cases hF : x0 = 237
    · rw [← Lib.slow_ED (n - i) x0 x1 x2 x3 (by omega) h1 h2 h3 hF]
      exact zzDecode_three b off n cap i x0 x1 x2 x3 w 128 159 hi' hn (.inr (.inl ⟨hF, rfl, rfl⟩)) h1 h2 c0 c1 c2
    · rw [← Lib.slow_E1 (n - i) x0 x1 x2 x3 (by omega) h1 h2 h3 (by omega)]
      exact zzDecode_three b off n cap i x0 x1 x2 x3 w 128 191 hi' hn (.inr (.inr ⟨hE, hF, by omega, hD, rfl, rfl⟩)) h1 h2 c0 c1 c2
  · by_cases hE : x0 = 240
    · rw [← Lib.slow_F0 (n - i) x0 x1 x2 x3 (by omega) h1 h2 h3 hE]
      exact zzDecode_four b off n cap i x0 x1 x2 x3 w 144 191 hi' hn (.inl ⟨hE, rfl, rfl⟩) h1 h2 h3 c0 c1 c2 c3
    by_cases hF : x0 = 244
    · rw [← Lib.slow_F4 (n - i) x0 x1 x2 x3 (by omega) h1 h2 h3 hF]
      exact zzDecode_four b off n cap i x0 x1 x2 x3 w 128 143 hi' hn (.inr (.inl ⟨hF, rfl, rfl⟩)) h1 h2 h3 c0 c1 c2 c3
    · rw [← Lib.slow_F1 (n - i) x0 x1 x2 x3 (by omega) h1 h2 h3 (by omega)]
      exact zzDecode_four b off n cap i x0 x1 x2 x3 w 128 191 hi' hn (.inr (.inr ⟨by omega, by omega, rfl, rfl⟩)) h1 h2 h3 c0 c1 c2 c3

end
/-- zzDecode(src, i), i inside. -/
theorem zzDecode_any (b off n cap i : Nat) (f : Nat → Nat) (w : World) (hi : i < n) (hn : n ≤ 1048576) (hf : ∀ j, f j < 256)
    (hc : ∀ j, j < n → w.cell? ⟨b, off + j, none⟩ = some (.int .u8 (f j))) :
    Calls Tryd.prog 17 #[.slice (some ⟨b, off, none⟩) n cap, .int .i64 i] w fun e w' => e = .returned (.tuple #[.int .i32 (dec n f i).1, .int .i64 (dec n f i).2]) ∧ ∃ m, w' = w.drewN m :=
  zzDecode_core b off n cap i (f i) (f (i + 1)) (f (i + 2)) (f (i + 3)) w hi hn (hf _) (hf _) (hf _) (hf _) (hc i hi) (hc _) (hc _) (hc _)
end Go.Proofs.Qxb6615043aDoor
