/-
  DERIVED: THE SHELF's CONTRACTS AT THIS DUMP, IN PLAIN WORDS (tools/lay-plain.mjs out of 'TryzShelfJ.lean', which tools/lay-shelf.mjs wrote): THE SAME DECLARATIONS UNDER THE SAME NAMES: 'import', 'namespace', 'open', 'def', 'theorem' AND NOTHING ELSE: no command of the shelf's: FOR A HAND-IN. Each laying: the table of numbers ('.._ren') and one theorem, a field a fact of the dump's own or the kernel's comparison; each contract: ONE APPLICATION.
-/
import Derived.Shelf.Strings.OnBuilder
import Derived.Test.Qxb6615582aGreatFmtProg
namespace Go.Proofs
open Go.Shelf
def Tryz.lays156_ren : Go.Shelf.Ren := ⟨fun | 156 => 41 | 165 => 50 | 166 => 51 | 169 => 52 | 240 => 63 | 241 => 64 | 276 => 79 | 277 => 80 | n => n, fun | 31 => 23 | 9 => 9 | 3 => 3 | 4 => 4 | 0 => 0 | 20 => 20 | 72 => 100 | 76 => 102 | 70 => 98 | 37 => 22 | 75 => 52 | 127 => 131 | 164 => 113 | 5 => 5 | 80 => 104 | n => n, fun | n => n⟩
theorem Tryz.lays156 : Go.Proofs.Lays.n156 Tryz.prog Tryz.lays156_ren := {
  mixed := by kernel_rfl
  f156 := Tryz.func41.trans (congrArg some (by kernel_rfl))
  f165 := Tryz.func50.trans (congrArg some (by kernel_rfl))
  f166 := Tryz.func51.trans (congrArg some (by kernel_rfl))
  f169 := Tryz.func52.trans (congrArg some (by kernel_rfl))
  f240 := Tryz.func63.trans (congrArg some (by kernel_rfl))
  f241 := Tryz.func64.trans (congrArg some (by kernel_rfl))
  f276 := Tryz.func79.trans (congrArg some (by kernel_rfl))
  f277 := Tryz.func80.trans (congrArg some (by kernel_rfl))
  t0 := Tryz.underlying0
  a0 := Tryz.isAgg0
  z0 := Tryz.sizeOf0
  v0 := Tryz.zeroValue0
  t3 := Tryz.underlying3
  a3 := Tryz.isAgg3
  z3 := Tryz.sizeOf3
  v3 := Tryz.zeroValue3
  t4 := Tryz.underlying4
  a4 := Tryz.isAgg4
  z4 := Tryz.sizeOf4
  v4 := Tryz.zeroValue4
  t9 := Tryz.underlying9
  a9 := Tryz.isAgg9
  z9 := Tryz.sizeOf9
  v9 := Tryz.zeroValue9
  t20 := Tryz.underlying20
  a20 := Tryz.isAgg20
  z20 := Tryz.sizeOf20
  v20 := Tryz.zeroValue20
  t31 := Tryz.underlying23
  a31 := Tryz.isAgg23
  z31 := Tryz.sizeOf23
  v31 := Tryz.zeroValue23
  t37 := Tryz.underlying22
  a37 := Tryz.isAgg22
  z37 := Tryz.sizeOf22
  v37 := Tryz.zeroValue22
  t70 := Tryz.underlying98
  a70 := Tryz.isAgg98
  z70 := Tryz.sizeOf98
  v70 := Tryz.zeroValue98
  t72 := Tryz.underlying100
  a72 := Tryz.isAgg100
  z72 := Tryz.sizeOf100
  v72 := Tryz.zeroValue100
  t75 := Tryz.underlying52
  a75 := Tryz.isAgg52
  z75 := Tryz.sizeOf52
  v75 := Tryz.zeroValue52
  t76 := Tryz.underlying102
  a76 := Tryz.isAgg102
  z76 := Tryz.sizeOf102
  v76 := Tryz.zeroValue102
  t127 := Tryz.underlying131
  a127 := Tryz.isAgg131
  z127 := Tryz.sizeOf131
  v127 := Tryz.zeroValue131
  t164 := Tryz.underlying113
  a164 := Tryz.isAgg113
  z164 := Tryz.sizeOf113
  v164 := Tryz.zeroValue113 }
theorem Tryz.Builder_Extra_156 : Builder.Extra Tryz.prog Tryz.lays156_ren := {
  sizeBuilder := by kernel_rfl
  liesBuilder := by kernel_rfl
  t5 := Tryz.underlying5
  a5 := Tryz.isAgg5
  z5 := Tryz.sizeOf5
  v5 := Tryz.zeroValue5
  infoByte := by kernel_rfl
  cellsByte := by kernel_rfl
  sizeByte := by kernel_rfl
  neB5 := by decide }
open Go.RowKit in
/-- No element: the empty string; the world is as it was. (Whatever the slice's address and capacity: a nil slice too.) (LAID: no walk: one application.) -/
theorem Tryz.strings_Join_none (a : Option Addr) (c : Nat) (sep : ByteArray) (w : World) :
    Calls Tryz.prog 41 #[.slice a 0 c, .string sep] w fun e w' => e = .returned (.string ⟨#[]⟩) ∧ w' = w := Any.strings_Join_none Tryz.lays156 Tryz.Builder_Extra_156 a c sep w
open Go.RowKit in
/-- strings.Join: "Join concatenates the elements of its first argument to create a single string. The separator string sep is placed between elements in the resulting string.": HOWEVER MANY ELEMENTS. Below the heap's end the world is as it was. (LAID: no walk: one application.) -/
theorem Tryz.strings_Join (bk o c : Nat) (xs : List ByteArray) (sep : ByteArray) (w : World) (hcells : ∀ (j : Nat) x, xs[j]? = some x → w.cell? ⟨bk, o + j, none⟩ = some (.string x)) (hbk : bk < w.heap.size) (hN : xs.length ≤ 140737488355328) (hcap : xs.length ≤ c) (hlen : (Lib.join (xs.map (·.data.toList)) sep.data.toList).length ≤ 140737488355328) :
    Calls Tryz.prog 41 #[.slice (some ⟨bk, o, none⟩) xs.length c, .string sep] w fun e w' => e = .returned (.string ⟨(Lib.join (xs.map (·.data.toList)) sep.data.toList).toArray⟩) ∧ Below w.heap.size w w' := Any.strings_Join Tryz.lays156 Tryz.Builder_Extra_156 bk o c xs sep w hcells hbk hN hcap hlen
end Go.Proofs
