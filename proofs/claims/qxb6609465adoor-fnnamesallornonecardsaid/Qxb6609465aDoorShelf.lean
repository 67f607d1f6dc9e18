/-
  strings.Join's CONTRACT AT THIS DUMP, laid in plain words by the kit's tools (lay-shelf.mjs, lay-plain.mjs): the part that this proof uses.
-/
import Derived.Shelf.Strings.OnBuilder
import Derived.Test.Qxb6609465aDoorProg
namespace Go.Proofs
open Go.Shelf
def Tryd.lays156_ren : Go.Shelf.Ren := ⟨fun | 156 => 11 | 165 => 12 | 166 => 13 | 169 => 14 | 240 => 15 | 241 => 16 | 276 => 17 | 277 => 18 | n => n, fun | 31 => 37 | 9 => 9 | 3 => 3 | 4 => 4 | 0 => 0 | 20 => 20 | 72 => 44 | 76 => 48 | 70 => 41 | 37 => 42 | 75 => 47 | 127 => 51 | 164 => 52 | 5 => 5 | 80 => 50 | n => n, fun | n => n⟩
theorem Tryd.lays156 : Go.Proofs.Lays.n156 Tryd.prog Tryd.lays156_ren := {
  mixed := by kernel_rfl
  f156 := Tryd.func11.trans (congrArg some (by kernel_rfl))
  f165 := Tryd.func12.trans (congrArg some (by kernel_rfl))
  f166 := Tryd.func13.trans (congrArg some (by kernel_rfl))
  f169 := Tryd.func14.trans (congrArg some (by kernel_rfl))
  f240 := Tryd.func15.trans (congrArg some (by kernel_rfl))
  f241 := Tryd.func16.trans (congrArg some (by kernel_rfl))
  f276 := Tryd.func17.trans (congrArg some (by kernel_rfl))
  f277 := Tryd.func18.trans (congrArg some (by kernel_rfl))
  t0 := Tryd.underlying0
  a0 := Tryd.isAgg0
  z0 := Tryd.sizeOf0
  v0 := Tryd.zeroValue0
  t3 := Tryd.underlying3
  a3 := Tryd.isAgg3
  z3 := Tryd.sizeOf3
  v3 := Tryd.zeroValue3
  t4 := Tryd.underlying4
  a4 := Tryd.isAgg4
  z4 := Tryd.sizeOf4
  v4 := Tryd.zeroValue4
  t9 := Tryd.underlying9
  a9 := Tryd.isAgg9
  z9 := Tryd.sizeOf9
  v9 := Tryd.zeroValue9
  t20 := Tryd.underlying20
  a20 := Tryd.isAgg20
  z20 := Tryd.sizeOf20
  v20 := Tryd.zeroValue20
  t31 := Tryd.underlying37
  a31 := Tryd.isAgg37
  z31 := Tryd.sizeOf37
  v31 := Tryd.zeroValue37
  t37 := Tryd.underlying42
  a37 := Tryd.isAgg42
  z37 := Tryd.sizeOf42
  v37 := Tryd.zeroValue42
  t70 := Tryd.underlying41
  a70 := Tryd.isAgg41
  z70 := Tryd.sizeOf41
  v70 := Tryd.zeroValue41
  t72 := Tryd.underlying44
  a72 := Tryd.isAgg44
  z72 := Tryd.sizeOf44
  v72 := Tryd.zeroValue44
  t75 := Tryd.underlying47
  a75 := Tryd.isAgg47
  z75 := Tryd.sizeOf47
  v75 := Tryd.zeroValue47
  t76 := Tryd.underlying48
  a76 := Tryd.isAgg48
  z76 := Tryd.sizeOf48
  v76 := Tryd.zeroValue48
  t127 := Tryd.underlying51
  a127 := Tryd.isAgg51
  z127 := Tryd.sizeOf51
  v127 := Tryd.zeroValue51
  t164 := Tryd.underlying52
  a164 := Tryd.isAgg52
  z164 := Tryd.sizeOf52
  v164 := Tryd.zeroValue52 }
theorem Tryd.Builder_Extra_156 : Builder.Extra Tryd.prog Tryd.lays156_ren := {
  sizeBuilder := by kernel_rfl
  liesBuilder := by kernel_rfl
  t5 := Tryd.underlying5
  a5 := Tryd.isAgg5
  z5 := Tryd.sizeOf5
  v5 := Tryd.zeroValue5
  infoByte := by kernel_rfl
  cellsByte := by kernel_rfl
  sizeByte := by kernel_rfl
  neB5 := by decide }
open Go.RowKit in
theorem Tryd.strings_Join_none (a : Option Addr) (c : Nat) (sep : ByteArray) (w : World) :
    Calls Tryd.prog 11 #[.slice a 0 c, .string sep] w fun e w' => e = .returned (.string ⟨#[]⟩) ∧ w' = w := Any.strings_Join_none Tryd.lays156 Tryd.Builder_Extra_156 a c sep w
open Go.RowKit in
theorem Tryd.strings_Join (bk o c : Nat) (xs : List ByteArray) (sep : ByteArray) (w : World) (hcells : ∀ (j : Nat) x, xs[j]? = some x → w.cell? ⟨bk, o + j, none⟩ = some (.string x)) (hbk : bk < w.heap.size) (hN : xs.length ≤ 140737488355328) (hcap : xs.length ≤ c) (hlen : (Lib.join (xs.map (·.data.toList)) sep.data.toList).length ≤ 140737488355328) :
    Calls Tryd.prog 11 #[.slice (some ⟨bk, o, none⟩) xs.length c, .string sep] w fun e w' => e = .returned (.string ⟨(Lib.join (xs.map (·.data.toList)) sep.data.toList).toArray⟩) ∧ Below w.heap.size w w' := Any.strings_Join Tryd.lays156 Tryd.Builder_Extra_156 bk o c xs sep w hcells hbk hN hcap hlen
end Go.Proofs
