/-
  DERIVED: strings.Join's contract of the shelf, laid at this dump in plain words (by the kit's lay-shelf.mjs and lay-plain.mjs; the rest of their print left out).
-/
import Derived.Shelf.Strings.OnBuilder
import Derived.Test.Qxb6604665aFmtProg
namespace Go.Proofs
open Go.Shelf
def Tryf.lays156_ren : Go.Shelf.Ren := ⟨fun | 156 => 19 | 165 => 27 | 166 => 28 | 169 => 29 | 240 => 36 | 241 => 37 | 276 => 48 | 277 => 49 | n => n, fun | 31 => 57 | 9 => 9 | 3 => 3 | 4 => 4 | 0 => 0 | 20 => 20 | 72 => 70 | 76 => 72 | 70 => 67 | 37 => 68 | 75 => 37 | 127 => 81 | 164 => 94 | 5 => 5 | 80 => 74 | n => n, fun | n => n⟩
theorem Tryf.lays156 : Go.Proofs.Lays.n156 Tryf.prog Tryf.lays156_ren := {
  mixed := by kernel_rfl
  f156 := Tryf.func19.trans (congrArg some (by kernel_rfl))
  f165 := Tryf.func27.trans (congrArg some (by kernel_rfl))
  f166 := Tryf.func28.trans (congrArg some (by kernel_rfl))
  f169 := Tryf.func29.trans (congrArg some (by kernel_rfl))
  f240 := Tryf.func36.trans (congrArg some (by kernel_rfl))
  f241 := Tryf.func37.trans (congrArg some (by kernel_rfl))
  f276 := Tryf.func48.trans (congrArg some (by kernel_rfl))
  f277 := Tryf.func49.trans (congrArg some (by kernel_rfl))
  t0 := Tryf.underlying0
  a0 := Tryf.isAgg0
  z0 := Tryf.sizeOf0
  v0 := Tryf.zeroValue0
  t3 := Tryf.underlying3
  a3 := Tryf.isAgg3
  z3 := Tryf.sizeOf3
  v3 := Tryf.zeroValue3
  t4 := Tryf.underlying4
  a4 := Tryf.isAgg4
  z4 := Tryf.sizeOf4
  v4 := Tryf.zeroValue4
  t9 := Tryf.underlying9
  a9 := Tryf.isAgg9
  z9 := Tryf.sizeOf9
  v9 := Tryf.zeroValue9
  t20 := Tryf.underlying20
  a20 := Tryf.isAgg20
  z20 := Tryf.sizeOf20
  v20 := Tryf.zeroValue20
  t31 := Tryf.underlying57
  a31 := Tryf.isAgg57
  z31 := Tryf.sizeOf57
  v31 := Tryf.zeroValue57
  t37 := Tryf.underlying68
  a37 := Tryf.isAgg68
  z37 := Tryf.sizeOf68
  v37 := Tryf.zeroValue68
  t70 := Tryf.underlying67
  a70 := Tryf.isAgg67
  z70 := Tryf.sizeOf67
  v70 := Tryf.zeroValue67
  t72 := Tryf.underlying70
  a72 := Tryf.isAgg70
  z72 := Tryf.sizeOf70
  v72 := Tryf.zeroValue70
  t75 := Tryf.underlying37
  a75 := Tryf.isAgg37
  z75 := Tryf.sizeOf37
  v75 := Tryf.zeroValue37
  t76 := Tryf.underlying72
  a76 := Tryf.isAgg72
  z76 := Tryf.sizeOf72
  v76 := Tryf.zeroValue72
  t127 := Tryf.underlying81
  a127 := Tryf.isAgg81
  z127 := Tryf.sizeOf81
  v127 := Tryf.zeroValue81
  t164 := Tryf.underlying94
  a164 := Tryf.isAgg94
  z164 := Tryf.sizeOf94
  v164 := Tryf.zeroValue94 }
theorem Tryf.Builder_Extra_156 : Builder.Extra Tryf.prog Tryf.lays156_ren := {
  sizeBuilder := by kernel_rfl
  liesBuilder := by kernel_rfl
  t5 := Tryf.underlying5
  a5 := Tryf.isAgg5
  z5 := Tryf.sizeOf5
  v5 := Tryf.zeroValue5
  infoByte := by kernel_rfl
  cellsByte := by kernel_rfl
  sizeByte := by kernel_rfl
  neB5 := by decide }
open Go.RowKit in
/-- No element: the empty string; the world is as it was. (Whatever the slice's address and capacity: a nil slice too.) (LAID: no walk: one application.) -/
theorem Tryf.strings_Join_none (a : Option Addr) (c : Nat) (sep : ByteArray) (w : World) :
    Calls Tryf.prog 19 #[.slice a 0 c, .string sep] w fun e w' => e = .returned (.string ⟨#[]⟩) ∧ w' = w := Any.strings_Join_none Tryf.lays156 Tryf.Builder_Extra_156 a c sep w
open Go.RowKit in
/-- strings.Join: "Join concatenates the elements of its first argument to create a single string. The separator string sep is placed between elements in the resulting string.": HOWEVER MANY ELEMENTS. Below the heap's end the world is as it was. (LAID: no walk: one application.) -/
theorem Tryf.strings_Join (bk o c : Nat) (xs : List ByteArray) (sep : ByteArray) (w : World) (hcells : ∀ (j : Nat) x, xs[j]? = some x → w.cell? ⟨bk, o + j, none⟩ = some (.string x)) (hbk : bk < w.heap.size) (hN : xs.length ≤ 140737488355328) (hcap : xs.length ≤ c) (hlen : (Lib.join (xs.map (·.data.toList)) sep.data.toList).length ≤ 140737488355328) :
    Calls Tryf.prog 19 #[.slice (some ⟨bk, o, none⟩) xs.length c, .string sep] w fun e w' => e = .returned (.string ⟨(Lib.join (xs.map (·.data.toList)) sep.data.toList).toArray⟩) ∧ Below w.heap.size w w' := Any.strings_Join Tryf.lays156 Tryf.Builder_Extra_156 bk o c xs sep w hcells hbk hN hcap hlen
end Go.Proofs
