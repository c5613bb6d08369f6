/-
  The library contract of unicode/utf8.ValidString at this program: the kit lay-plain tool wrote the text.
-/
import Derived.Shelf.Unicode.ValidAny
import Derived.Test.Qxb6615582aGreatFmtProg
namespace Go.Proofs
open Go.Shelf
def Tryz.lays196_ren : Go.Shelf.Ren := ⟨fun | 196 => 43 | 259 => 54 | n => n, fun | 9 => 9 | 4 => 4 | 3 => 3 | 5 => 5 | 12 => 12 | 119 => 107 | 0 => 0 | 46 => 111 | 139 => 110 | 138 => 109 | 53 => 132 | n => n, fun | 3 => 3 | 4 => 4 | n => n⟩
theorem Tryz.lays196 : Go.Proofs.Lays.n196 Tryz.prog Tryz.lays196_ren := {
  mixed := by kernel_rfl
  f196 := Tryz.func43.trans (congrArg some (by kernel_rfl))
  f259 := Tryz.func54.trans (congrArg some (by kernel_rfl))
  t0 := Tryz.underlying0
  a0 := Tryz.isAgg0
  z0 := Tryz.sizeOf0
  v0 := Tryz.zeroValue0
  t3 := Tryz.underlying3
  a3 := Tryz.isAgg3
  z3 := Tryz.sizeOf3
  v3 := Tryz.zeroValue3
  t4 := Tryz.underlying4
  a4 := Tryz.isAgg4
  z4 := Tryz.sizeOf4
  v4 := Tryz.zeroValue4
  t5 := Tryz.underlying5
  a5 := Tryz.isAgg5
  z5 := Tryz.sizeOf5
  v5 := Tryz.zeroValue5
  t9 := Tryz.underlying9
  a9 := Tryz.isAgg9
  z9 := Tryz.sizeOf9
  v9 := Tryz.zeroValue9
  t12 := Tryz.underlying12
  a12 := Tryz.isAgg12
  z12 := Tryz.sizeOf12
  v12 := Tryz.zeroValue12
  t46 := Tryz.underlying111
  a46 := Tryz.isAgg111
  z46 := Tryz.sizeOf111
  v46 := Tryz.zeroValue111
  t53 := Tryz.underlying132
  a53 := Tryz.isAgg132
  z53 := Tryz.sizeOf132
  v53 := Tryz.zeroValue132
  t119 := Tryz.underlying107
  a119 := Tryz.isAgg107
  z119 := Tryz.sizeOf107
  t138 := Tryz.underlying109
  a138 := Tryz.isAgg109
  z138 := Tryz.sizeOf109
  v138 := Tryz.zeroValue109
  t139 := Tryz.underlying110
  a139 := Tryz.isAgg110
  z139 := Tryz.sizeOf110
  v139 := Tryz.zeroValue110
  g3 := by kernel_rfl
  g4 := by kernel_rfl }
open Go.RowKit in
/-- utf8.ValidString. -/
theorem Tryz.utf8_ValidString (s : ByteArray) (w : World) (hs : s.size ≤ 9223372036854775807) (hT : Lib.Utf8Tabs 3 4 w) :
    Calls Tryz.prog 43 #[.string s] w fun e w' => e = .returned (.bool (Lib.validD s.data.toList)) ∧ Below w.heap.size w w' := Any.utf8_ValidString Tryz.lays196 s w hs hT
end Go.Proofs
