import Derived.Test.Qxb6606282aDoorProg
import Derived.Test.Qxb6606282aDoorPlain3
import Derived.Test.Qxb6606282aDoorShelf
import Derived.WalkKit
import Derived.WalkSpells
import Derived.WalkLawsBesides
import Derived.Below
import Derived.WalkSmall
namespace Go.Proofs.Qxb6606282aDoor
open Go.RowKit

theorem hide {p : Prop} (h : p) : Hid p := h
theorem ret_bool {a b : Bool} (h : a = b) : Ending.returned (.bool a) = .returned (.bool b) := by rw [h]
theorem ret_str {a b : ByteArray} (h : a.data.toList = b.data.toList) : Ending.returned (.string a) = .returned (.string b) := by
  have : a = b := by cases a; cases b; simp at h; subst h; rfl
  rw [this]
theorem mk_list (l : List UInt8) : (ByteArray.mk l.toArray).data.toList = l := by simp
theorem len_data (s : ByteArray) : s.data.toList.length = s.size := by rw [Array.length_toList]; rfl
theorem app_data (a b : ByteArray) : (a ++ b).data.toList = a.data.toList ++ b.data.toList := by simp [ByteArray.data_append]
theorem ne_empty {s : ByteArray} (h : s.data.toList ≠ []) : s.toList.isEmpty = false := by
  rw [ByteArray.toList_eq]; simpa using h
theorem is_empty {s : ByteArray} (h : s.data.toList = []) : s.toList.isEmpty = true := by
  rw [ByteArray.toList_eq]; simpa using h

/-! ### the library's contracts, by the bytes -/
theorem cutPrefix_c (s : ByteArray) (w : World) :
    Calls Tryd.prog 20 #[.string s, .string ⟨#[45]⟩] w fun e w' => ∃ t : ByteArray, e = .returned (.tuple #[.string t, .bool (Lib.hasPrefix s.data.toList [45])]) ∧ t.data.toList = Lib.trimPrefix s.data.toList [45] ∧ w' = w :=
  (Tryd.strings_CutPrefix s ⟨#[45]⟩ w).mono fun _ _ ⟨he, hw⟩ => ⟨_, he, mk_list _, hw⟩
theorem trimPrefix_c (s : ByteArray) (w : World) :
    Calls Tryd.prog 43 #[.string s, .string ⟨#[43]⟩] w fun e w' => ∃ t : ByteArray, e = .returned (.string t) ∧ t.data.toList = Lib.trimPrefix s.data.toList [43] ∧ w' = w :=
  (Tryd.strings_TrimPrefix s ⟨#[43]⟩ w).mono fun _ _ ⟨he, hw⟩ => ⟨_, he, mk_list _, hw⟩
theorem trimLeft_c (s : ByteArray) (w : World) :
    Calls Tryd.prog 23 #[.string s, .string ⟨#[48]⟩] w fun e w' => ∃ t : ByteArray, e = .returned (.string t) ∧ t.data.toList = tl s.data.toList ∧ w' = w :=
  (Tryd.strings_TrimLeft_one s 48 (by decide) w).mono fun _ _ ⟨he, hw⟩ => ⟨_, he, mk_list _, hw⟩
theorem trimRight_c (s : ByteArray) (hs : s.size ≤ 9223372036854775807) (w : World) :
    Calls Tryd.prog 24 #[.string s, .string ⟨#[48]⟩] w fun e w' => ∃ t : ByteArray, e = .returned (.string t) ∧ t.data.toList = tr s.data.toList ∧ w' = w :=
  (Tryd.strings_TrimRight_one s 48 (by decide) w hs).mono fun _ _ ⟨he, hw⟩ => ⟨_, he, mk_list _, hw⟩
theorem toLower_c (s : ByteArray) (hs : s.size ≤ 140737488355328) (ha : ∀ c ∈ s.data.toList, c.toNat < 128) (w : World) :
    Calls Tryd.prog 22 #[.string s] w fun e w' => ∃ t : ByteArray, e = .returned (.string t) ∧ t.data.toList = Lib.toLowerA s.data.toList ∧ Below w.heap.size w w' :=
  (Tryd.strings_ToLower_ascii s w hs (fun _ b hb => ha b (List.mem_of_getElem? hb))).mono fun _ _ ⟨he, hw⟩ => ⟨_, he, mk_list _, hw⟩
theorem cut_c (x : UInt8) (s : ByteArray) (hs : s.size < 4294967281) (m : Int) (w : World) (hm : w.cell? ⟨0, 0, none⟩ = some (.int .i64 m)) :
    Calls Tryd.prog 21 #[.string s, .string ⟨#[x]⟩] w fun e w' => ∃ (a b : ByteArray) (k : Bool), e = .returned (.tuple #[.string a, .string b, .bool k]) ∧ a.data.toList = (Lib.cut s.data.toList [x]).1 ∧ b.data.toList = (Lib.cut s.data.toList [x]).2.1 ∧ ∃ n, w' = w.drewN n :=
  (Tryd.strings_Cut s ⟨#[x]⟩ m w hs hm).mono fun _ _ ⟨he, hw⟩ => ⟨_, _, _, he, mk_list _, mk_list _, hw⟩

set_option maxRecDepth 100000 in
set_option maxHeartbeats 400000 in
theorem string_c (n : Bool) (d : ByteArray) (hd : d.size ≤ 4294967296) (w : World) :
    Calls Tryd.prog 27 #[.agg #[.bool n, .string d]] w fun e w' => ∃ t : ByteArray, e = .returned (.string t) ∧ t.data.toList = strI n d.data.toList ∧ Below w.heap.size w w' := by
  by_cases h0 : d.data.toList = []
  · have he := is_empty h0
    have Hs : Hid (strI n d.data.toList = [48]) := by unfold strI; rw [if_pos h0]; exact rfl
    clear h0
    go_enter Tryd.func27, Tryd.ntmps27
    go_wp2
    go_ret
    exact ⟨⟨#[48]⟩, rfl, Hs.out.symm, (Below.refl _ _).alloc (Nat.le_refl _) _⟩
  · have he := ne_empty h0
    cases n
    · have Hs : Hid (strI false d.data.toList = d.data.toList) := by unfold strI; rw [if_neg h0]; exact rfl
      clear h0
      go_enter Tryd.func27, Tryd.ntmps27
      go_wp2
      go_ret
      exact ⟨d, rfl, Hs.out.symm, (Below.refl _ _).alloc (Nat.le_refl _) _⟩
    · have Hs : Hid (strI true d.data.toList = 45 :: d.data.toList) := by unfold strI; rw [if_neg h0]; exact rfl
      clear h0
      go_enter Tryd.func27, Tryd.ntmps27
      go_wp2
      go_ret
      exact ⟨_, rfl, by rw [app_data, Hs.out]; rfl, (Below.refl _ _).alloc (Nat.le_refl _) _⟩

set_option maxRecDepth 100000 in
set_option maxHeartbeats 400000 in
theorem parseInteger_c (s : ByteArray) (w : World) :
    Calls Tryd.prog 25 #[.string s] w fun e w' => ∃ (n : Bool) (t : ByteArray), e = .returned (.agg #[.bool n, .string t]) ∧ (n, t.data.toList) = parI s.data.toList ∧ Below w.heap.size w w' := by
  go_enter Tryd.func25, Tryd.ntmps25
  go_wp2_with fail
  refine (trimPrefix_c s _).mono ?_
  rintro e w' ⟨u, rfl, hu, hw⟩
  subst hw
  have Hu := hide hu
  clear hu
  obtain ⟨b, hb⟩ : ∃ b, Lib.hasPrefix u.data.toList [45] = b := ⟨_, rfl⟩
  have hC : Hid (∀ w, Calls Tryd.prog 20 #[.string u, .string ⟨#[45]⟩] w fun e w' => ∃ t : ByteArray, e = .returned (.tuple #[.string t, .bool b]) ∧ t.data.toList = Lib.trimPrefix u.data.toList [45] ∧ w' = w) := by
    intro w
    have hx := cutPrefix_c u w
    rw [hb] at hx
    exact hx
  have Hb := hide hb
  clear hb
  go_wp2_with fail
  refine (hC.out _).mono ?_
  rintro e w' ⟨v, rfl, hv, hw⟩
  subst hw
  have Hv := hide hv
  clear hv
  cases b
  · have Hv2 : Hid (v.data.toList = Lib.trimPrefix (Lib.trimPrefix s.data.toList [43]) [45]) := by rw [← Hu.out]; exact Hv.out
    have Hu2 : Hid (u.data.toList = Lib.trimPrefix (Lib.trimPrefix s.data.toList [43]) [45]) := by
      rw [← Hu.out, trim_no Hb.out]; exact rfl
    have Hb2 : Hid (Lib.hasPrefix (Lib.trimPrefix s.data.toList [43]) [45] = false) := by rw [← Hu.out]; exact Hb.out
    go_wp2_with fail
    refine (trimLeft_c u _).mono ?_
    rintro e w' ⟨t, rfl, ht, hw⟩
    subst hw
    have Ht := hide ht
    clear ht
    go_wp2
    refine bodyPost_ret (v := .agg #[.bool false, .string t]) (by simp [results, Tryd.results25, go_sem]) rfl ⟨false, t, rfl, ?_, ?_⟩
    · unfold parI; rw [Hb2.out, ← Hu2.out, ← Ht.out]; rfl
    · exact ((Below.refl _ _).alloc (Nat.le_refl _) _).alloc (by simp) _
  · have Hv2 : Hid (v.data.toList = Lib.trimPrefix (Lib.trimPrefix s.data.toList [43]) [45]) := by rw [← Hu.out]; exact Hv.out
    have Hb2 : Hid (Lib.hasPrefix (Lib.trimPrefix s.data.toList [43]) [45] = true) := by rw [← Hu.out]; exact Hb.out
    go_wp2_with fail
    refine (trimLeft_c v _).mono ?_
    rintro e w' ⟨t, rfl, ht, hw⟩
    subst hw
    have Ht := hide ht
    by_cases h0 : t.data.toList = []
    · have he := is_empty h0
      have H0 := hide h0
      clear ht h0
      go_wp2
      refine bodyPost_ret (v := .agg #[.bool false, .string t]) (by simp [results, Tryd.results25, go_sem]) rfl ⟨false, t, rfl, ?_, ?_⟩
      · unfold parI; rw [Hb2.out, ← Hv2.out, ← Ht.out, H0.out]; rfl
      · exact ((Below.refl _ _).alloc (Nat.le_refl _) _).alloc (by simp) _
    · have he := ne_empty h0
      have H0 : Hid (t.data.toList.isEmpty = false) := by rw [← ByteArray.toList_eq]; exact he
      clear ht h0
      go_wp2
      refine bodyPost_ret (v := .agg #[.bool true, .string t]) (by simp [results, Tryd.results25, go_sem]) rfl ⟨true, t, rfl, ?_, ?_⟩
      · unfold parI; rw [Hb2.out, ← Hv2.out, ← Ht.out, H0.out]; rfl
      · exact ((Below.refl _ _).alloc (Nat.le_refl _) _).alloc (by simp) _
end Go.Proofs.Qxb6606282aDoor
