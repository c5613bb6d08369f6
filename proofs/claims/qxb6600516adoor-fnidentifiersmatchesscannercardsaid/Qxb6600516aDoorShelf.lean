/-
  The library's contract of strings.Split at this program: the kit's lay-plain tool wrote the text.
-/
import Derived.Shelf.Strings.Split
import Derived.Test.Qxb6600516aDoorProg
namespace Go.Proofs
open Go.Shelf
def Tryd.lays146_ren : Go.Shelf.Ren := ⟨fun | 146 => 27 | 221 => 30 | 268 => 32 | 138 => 33 | 143 => 34 | 195 => 36 | 197 => 37 | 218 => 38 | 219 => 35 | 260 => 43 | 217 => 39 | 225 => 40 | 224 => 41 | 267 => 42 | 266 => 44 | 314 => 45 | n => n, fun | 9 => 9 | 31 => 26 | 3 => 3 | 4 => 4 | 0 => 0 | 105 => 52 | 21 => 21 | 5 => 5 | 46 => 56 | 119 => 60 | 139 => 63 | 138 => 62 | 146 => 58 | 51 => 57 | n => n, fun | 1 => 0 | 3 => 1 | 4 => 2 | n => n⟩
theorem Tryd.lays146 : Go.Proofs.Lays.n146 Tryd.prog Tryd.lays146_ren := {
  mixed := by kernel_rfl
  f138 := Tryd.func33.trans (congrArg some (by kernel_rfl))
  f143 := Tryd.func34.trans (congrArg some (by kernel_rfl))
  f146 := Tryd.func27.trans (congrArg some (by kernel_rfl))
  f195 := Tryd.func36.trans (congrArg some (by kernel_rfl))
  f197 := Tryd.func37.trans (congrArg some (by kernel_rfl))
  f217 := Tryd.func39.trans (congrArg some (by kernel_rfl))
  f218 := Tryd.func38.trans (congrArg some (by kernel_rfl))
  f219 := Tryd.func35.trans (congrArg some (by kernel_rfl))
  f221 := Tryd.func30.trans (congrArg some (by kernel_rfl))
  f224 := Tryd.func41.trans (congrArg some (by kernel_rfl))
  f225 := Tryd.func40.trans (congrArg some (by kernel_rfl))
  f260 := Tryd.func43.trans (congrArg some (by kernel_rfl))
  f266 := Tryd.func44.trans (congrArg some (by kernel_rfl))
  f267 := Tryd.func42.trans (congrArg some (by kernel_rfl))
  f268 := Tryd.func32.trans (congrArg some (by kernel_rfl))
  f314 := Tryd.func45.trans (congrArg some (by kernel_rfl))
  t0 := Tryd.underlying0
  a0 := Tryd.isAgg0
  z0 := Tryd.sizeOf0
  v0 := Tryd.zeroValue0
  t3 := Tryd.underlying3
  a3 := Tryd.isAgg3
  z3 := Tryd.sizeOf3
  v3 := Tryd.zeroValue3
  t4 := Tryd.underlying4
  a4 := Tryd.isAgg4
  z4 := Tryd.sizeOf4
  v4 := Tryd.zeroValue4
  t5 := Tryd.underlying5
  a5 := Tryd.isAgg5
  z5 := Tryd.sizeOf5
  v5 := Tryd.zeroValue5
  t9 := Tryd.underlying9
  a9 := Tryd.isAgg9
  z9 := Tryd.sizeOf9
  v9 := Tryd.zeroValue9
  t21 := Tryd.underlying21
  a21 := Tryd.isAgg21
  z21 := Tryd.sizeOf21
  v21 := Tryd.zeroValue21
  t31 := Tryd.underlying26
  a31 := Tryd.isAgg26
  z31 := Tryd.sizeOf26
  v31 := Tryd.zeroValue26
  t46 := Tryd.underlying56
  a46 := Tryd.isAgg56
  z46 := Tryd.sizeOf56
  v46 := Tryd.zeroValue56
  t51 := Tryd.underlying57
  a51 := Tryd.isAgg57
  z51 := Tryd.sizeOf57
  v51 := Tryd.zeroValue57
  t105 := Tryd.underlying52
  a105 := Tryd.isAgg52
  z105 := Tryd.sizeOf52
  v105 := Tryd.zeroValue52
  t119 := Tryd.underlying60
  a119 := Tryd.isAgg60
  z119 := Tryd.sizeOf60
  t138 := Tryd.underlying62
  a138 := Tryd.isAgg62
  z138 := Tryd.sizeOf62
  v138 := Tryd.zeroValue62
  t139 := Tryd.underlying63
  a139 := Tryd.isAgg63
  z139 := Tryd.sizeOf63
  v139 := Tryd.zeroValue63
  t146 := Tryd.underlying58
  a146 := Tryd.isAgg58
  z146 := Tryd.sizeOf58
  v146 := Tryd.zeroValue58
  g1 := by kernel_rfl
  g3 := by kernel_rfl
  g4 := by kernel_rfl }
open Go.RowKit Go.Lib in
/-- strings.Split. (LAID: no walk: one application.) -/
theorem Tryd.strings_Split (s sep : ByteArray) (m : Int) (w : World) (hs : s.size < 4294967281) (hm : w.cell? ⟨0, 0, none⟩ = some (.int .i64 m)) (h1 : 1 ≤ sep.size) :
    Calls Tryd.prog 27 #[.string s, .string sep] w fun e w' =>
      e = .returned (.slice (some ⟨w.heap.size, 0, none⟩) (Lib.countB s sep + 1) (Lib.countB s sep + 1)) ∧ w' = w.alloc (.cells ((Lib.splitB sep 0 (Lib.countB s sep) s).map Value.string).toArray 9) := Any.strings_Split Tryd.lays146 (by kernel_rfl) s sep m w hs hm h1
end Go.Proofs
