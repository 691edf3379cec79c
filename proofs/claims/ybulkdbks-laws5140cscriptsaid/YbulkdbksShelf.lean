/-
  DERIVED: THE SHELF's CONTRACTS AT THIS DUMP, IN PLAIN WORDS (tools/lay-plain.mjs out of 'YbulkdbksShelf.lean', which tools/lay-shelf.mjs wrote): THE SAME DECLARATIONS UNDER THE SAME NAMES: 'import', 'namespace', 'open', 'def', 'theorem' AND NOTHING ELSE: no command of the shelf's: FOR A HAND-IN. Each laying: the table of numbers ('.._ren') and one theorem, a field a fact of the dump's own or the kernel's comparison; each contract: ONE APPLICATION.
-/
import Derived.Shelf.Strings.OnBuilder
import Derived.Test.YbulkdbksChecked
namespace Go.Proofs
open Go.Shelf
def Yba.lays156_ren : Go.Shelf.Ren := ⟨fun | 156 => 42 | 165 => 49 | 166 => 50 | 169 => 51 | 240 => 55 | 241 => 56 | 276 => 59 | 277 => 60 | n => n, fun | 31 => 32 | 9 => 9 | 3 => 3 | 4 => 4 | 0 => 0 | 20 => 20 | 72 => 135 | 76 => 137 | 70 => 133 | 37 => 22 | 75 => 25 | 127 => 140 | 164 => 143 | 5 => 5 | 80 => 125 | n => n, fun | n => n⟩
theorem Yba.lays156 : Go.Proofs.Lays.n156 Yba.prog Yba.lays156_ren := {
  mixed := by kernel_rfl
  f156 := Yba.func42.trans (congrArg some (by kernel_rfl))
  f165 := Yba.func49.trans (congrArg some (by kernel_rfl))
  f166 := Yba.func50.trans (congrArg some (by kernel_rfl))
  f169 := Yba.func51.trans (congrArg some (by kernel_rfl))
  f240 := Yba.func55.trans (congrArg some (by kernel_rfl))
  f241 := Yba.func56.trans (congrArg some (by kernel_rfl))
  f276 := Yba.func59.trans (congrArg some (by kernel_rfl))
  f277 := Yba.func60.trans (congrArg some (by kernel_rfl))
  t0 := Yba.underlying0
  a0 := Yba.isAgg0
  z0 := Yba.sizeOf0
  v0 := Yba.zeroValue0
  t3 := Yba.underlying3
  a3 := Yba.isAgg3
  z3 := Yba.sizeOf3
  v3 := Yba.zeroValue3
  t4 := Yba.underlying4
  a4 := Yba.isAgg4
  z4 := Yba.sizeOf4
  v4 := Yba.zeroValue4
  t9 := Yba.underlying9
  a9 := Yba.isAgg9
  z9 := Yba.sizeOf9
  v9 := Yba.zeroValue9
  t20 := Yba.underlying20
  a20 := Yba.isAgg20
  z20 := Yba.sizeOf20
  v20 := Yba.zeroValue20
  t31 := Yba.underlying32
  a31 := Yba.isAgg32
  z31 := Yba.sizeOf32
  v31 := Yba.zeroValue32
  t37 := Yba.underlying22
  a37 := Yba.isAgg22
  z37 := Yba.sizeOf22
  v37 := Yba.zeroValue22
  t70 := Yba.underlying133
  a70 := Yba.isAgg133
  z70 := Yba.sizeOf133
  v70 := Yba.zeroValue133
  t72 := Yba.underlying135
  a72 := Yba.isAgg135
  z72 := Yba.sizeOf135
  v72 := Yba.zeroValue135
  t75 := Yba.underlying25
  a75 := Yba.isAgg25
  z75 := Yba.sizeOf25
  v75 := Yba.zeroValue25
  t76 := Yba.underlying137
  a76 := Yba.isAgg137
  z76 := Yba.sizeOf137
  v76 := Yba.zeroValue137
  t127 := Yba.underlying140
  a127 := Yba.isAgg140
  z127 := Yba.sizeOf140
  v127 := Yba.zeroValue140
  t164 := Yba.underlying143
  a164 := Yba.isAgg143
  z164 := Yba.sizeOf143
  v164 := Yba.zeroValue143 }
theorem Yba.Builder_Extra_156 : Builder.Extra Yba.prog Yba.lays156_ren := {
  sizeBuilder := by kernel_rfl
  liesBuilder := by kernel_rfl
  t5 := Yba.underlying5
  a5 := Yba.isAgg5
  z5 := Yba.sizeOf5
  v5 := Yba.zeroValue5
  infoByte := by kernel_rfl
  cellsByte := by kernel_rfl
  sizeByte := by kernel_rfl
  neB5 := by decide }
open Go.RowKit in
/-- No element: the empty string; the world is as it was. (Whatever the slice's address and capacity: a nil slice too.) (LAID: no walk: one application.) -/
theorem Yba.strings_Join_none (a : Option Addr) (c : Nat) (sep : ByteArray) (w : World) :
    Calls Yba.prog 42 #[.slice a 0 c, .string sep] w fun e w' => e = .returned (.string ⟨#[]⟩) ∧ w' = w := Any.strings_Join_none Yba.lays156 Yba.Builder_Extra_156 a c sep w
open Go.RowKit in
/-- strings.Join: "Join concatenates the elements of its first argument to create a single string. The separator string sep is placed between elements in the resulting string.": HOWEVER MANY ELEMENTS. Below the heap's end the world is as it was. (LAID: no walk: one application.) -/
theorem Yba.strings_Join (bk o c : Nat) (xs : List ByteArray) (sep : ByteArray) (w : World) (hcells : ∀ (j : Nat) x, xs[j]? = some x → w.cell? ⟨bk, o + j, none⟩ = some (.string x)) (hbk : bk < w.heap.size) (hN : xs.length ≤ 140737488355328) (hcap : xs.length ≤ c) (hlen : (Lib.join (xs.map (·.data.toList)) sep.data.toList).length ≤ 140737488355328) :
    Calls Yba.prog 42 #[.slice (some ⟨bk, o, none⟩) xs.length c, .string sep] w fun e w' => e = .returned (.string ⟨(Lib.join (xs.map (·.data.toList)) sep.data.toList).toArray⟩) ∧ Below w.heap.size w w' := Any.strings_Join Yba.lays156 Yba.Builder_Extra_156 bk o c xs sep w hcells hbk hN hcap hlen
end Go.Proofs
