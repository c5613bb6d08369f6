/-
  The library's contract of unicode/utf8.DecodeRune at this program: the kit's lay-plain tool wrote the text.
-/
import Derived.Shelf.Spec.DecodeRune
import Derived.Test.Qxb6615582aGreatFmtProg
namespace Go.Proofs
open Go.Shelf
def Tryz.lays32_ren : Go.Shelf.Ren := ⟨fun | 32 => 83 | 49 => 93 | n => n, fun | 30 => 22 | 21 => 21 | 3 => 3 | 0 => 0 | 5 => 5 | 4 => 4 | 33 => 163 | 66 => 107 | 25 => 111 | 69 => 110 | 68 => 109 | n => n, fun | 2 => 3 | 3 => 4 | n => n⟩
theorem Tryz.lays32 : Go.Proofs.Lays7.n32 Tryz.prog Tryz.lays32_ren := {
  mixed := by kernel_rfl
  f32 := Tryz.func83.trans (congrArg some (by kernel_rfl))
  f49 := Tryz.func93.trans (congrArg some (by kernel_rfl))
  t0 := Tryz.underlying0
  a0 := Tryz.isAgg0
  z0 := Tryz.sizeOf0
  v0 := Tryz.zeroValue0
  i0 := by kernel_rfl
  t3 := Tryz.underlying3
  a3 := Tryz.isAgg3
  z3 := Tryz.sizeOf3
  v3 := Tryz.zeroValue3
  i3 := by kernel_rfl
  t4 := Tryz.underlying4
  a4 := Tryz.isAgg4
  z4 := Tryz.sizeOf4
  v4 := Tryz.zeroValue4
  i4 := by kernel_rfl
  t5 := Tryz.underlying5
  a5 := Tryz.isAgg5
  z5 := Tryz.sizeOf5
  v5 := Tryz.zeroValue5
  i5 := by kernel_rfl
  t21 := Tryz.underlying21
  a21 := Tryz.isAgg21
  z21 := Tryz.sizeOf21
  v21 := Tryz.zeroValue21
  i21 := by kernel_rfl
  t25 := Tryz.underlying111
  a25 := Tryz.isAgg111
  z25 := Tryz.sizeOf111
  v25 := Tryz.zeroValue111
  i25 := by kernel_rfl
  t30 := Tryz.underlying22
  a30 := Tryz.isAgg22
  z30 := Tryz.sizeOf22
  v30 := Tryz.zeroValue22
  i30 := by kernel_rfl
  t33 := Tryz.underlying163
  a33 := Tryz.isAgg163
  z33 := Tryz.sizeOf163
  v33 := Tryz.zeroValue163
  i33 := by kernel_rfl
  t66 := Tryz.underlying107
  a66 := Tryz.isAgg107
  z66 := Tryz.sizeOf107
  t68 := Tryz.underlying109
  a68 := Tryz.isAgg109
  z68 := Tryz.sizeOf109
  v68 := Tryz.zeroValue109
  i68 := by kernel_rfl
  t69 := Tryz.underlying110
  a69 := Tryz.isAgg110
  z69 := Tryz.sizeOf110
  v69 := Tryz.zeroValue110
  i69 := by kernel_rfl
  g2 := by kernel_rfl
  g3 := by kernel_rfl }
end Go.Proofs
