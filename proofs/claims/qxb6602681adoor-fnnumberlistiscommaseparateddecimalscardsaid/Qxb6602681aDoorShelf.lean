/-
  DERIVED: contracts of the shelf laid at this dump in plain words (by the kit's lay-shelf.mjs and lay-plain.mjs): strings.Join, strconv.Itoa.
-/
import Derived.Shelf.Strings.OnBuilder
import Derived.Shelf.LaysM
import Derived.Shelf.Strconv.Itoa3
import Derived.Test.Qxb6602681aDoorProg
namespace Go.Proofs
open Go.Shelf
def Tryd.lays156_ren : Go.Shelf.Ren := ⟨fun | 156 => 13 | 165 => 15 | 166 => 16 | 169 => 17 | 240 => 19 | 241 => 20 | 276 => 25 | 277 => 26 | n => n, fun | 31 => 30 | 9 => 9 | 3 => 3 | 4 => 4 | 0 => 0 | 20 => 20 | 72 => 35 | 76 => 39 | 70 => 33 | 37 => 25 | 75 => 38 | 127 => 43 | 164 => 50 | 5 => 5 | 80 => 41 | n => n, fun | n => n⟩
theorem Tryd.lays156 : Go.Proofs.Lays.n156 Tryd.prog Tryd.lays156_ren := {
  mixed := by kernel_rfl
  f156 := Tryd.func13.trans (congrArg some (by kernel_rfl))
  f165 := Tryd.func15.trans (congrArg some (by kernel_rfl))
  f166 := Tryd.func16.trans (congrArg some (by kernel_rfl))
  f169 := Tryd.func17.trans (congrArg some (by kernel_rfl))
  f240 := Tryd.func19.trans (congrArg some (by kernel_rfl))
  f241 := Tryd.func20.trans (congrArg some (by kernel_rfl))
  f276 := Tryd.func25.trans (congrArg some (by kernel_rfl))
  f277 := Tryd.func26.trans (congrArg some (by kernel_rfl))
  t0 := Tryd.underlying0
  a0 := Tryd.isAgg0
  z0 := Tryd.sizeOf0
  v0 := Tryd.zeroValue0
  t3 := Tryd.underlying3
  a3 := Tryd.isAgg3
  z3 := Tryd.sizeOf3
  v3 := Tryd.zeroValue3
  t4 := Tryd.underlying4
  a4 := Tryd.isAgg4
  z4 := Tryd.sizeOf4
  v4 := Tryd.zeroValue4
  t9 := Tryd.underlying9
  a9 := Tryd.isAgg9
  z9 := Tryd.sizeOf9
  v9 := Tryd.zeroValue9
  t20 := Tryd.underlying20
  a20 := Tryd.isAgg20
  z20 := Tryd.sizeOf20
  v20 := Tryd.zeroValue20
  t31 := Tryd.underlying30
  a31 := Tryd.isAgg30
  z31 := Tryd.sizeOf30
  v31 := Tryd.zeroValue30
  t37 := Tryd.underlying25
  a37 := Tryd.isAgg25
  z37 := Tryd.sizeOf25
  v37 := Tryd.zeroValue25
  t70 := Tryd.underlying33
  a70 := Tryd.isAgg33
  z70 := Tryd.sizeOf33
  v70 := Tryd.zeroValue33
  t72 := Tryd.underlying35
  a72 := Tryd.isAgg35
  z72 := Tryd.sizeOf35
  v72 := Tryd.zeroValue35
  t75 := Tryd.underlying38
  a75 := Tryd.isAgg38
  z75 := Tryd.sizeOf38
  v75 := Tryd.zeroValue38
  t76 := Tryd.underlying39
  a76 := Tryd.isAgg39
  z76 := Tryd.sizeOf39
  v76 := Tryd.zeroValue39
  t127 := Tryd.underlying43
  a127 := Tryd.isAgg43
  z127 := Tryd.sizeOf43
  v127 := Tryd.zeroValue43
  t164 := Tryd.underlying50
  a164 := Tryd.isAgg50
  z164 := Tryd.sizeOf50
  v164 := Tryd.zeroValue50 }
theorem Tryd.Builder_Extra_156 : Builder.Extra Tryd.prog Tryd.lays156_ren := {
  sizeBuilder := by kernel_rfl
  liesBuilder := by kernel_rfl
  t5 := Tryd.underlying5
  a5 := Tryd.isAgg5
  z5 := Tryd.sizeOf5
  v5 := Tryd.zeroValue5
  infoByte := by kernel_rfl
  cellsByte := by kernel_rfl
  sizeByte := by kernel_rfl
  neB5 := by decide }
open Go.RowKit in
/-- No element: the empty string; the world is as it was. (Whatever the slice's address and capacity: a nil slice too.) (LAID: no walk: one application.) -/
theorem Tryd.strings_Join_none (a : Option Addr) (c : Nat) (sep : ByteArray) (w : World) :
    Calls Tryd.prog 13 #[.slice a 0 c, .string sep] w fun e w' => e = .returned (.string ⟨#[]⟩) ∧ w' = w := Any.strings_Join_none Tryd.lays156 Tryd.Builder_Extra_156 a c sep w
open Go.RowKit in
/-- strings.Join: "Join concatenates the elements of its first argument to create a single string. The separator string sep is placed between elements in the resulting string.": HOWEVER MANY ELEMENTS. Below the heap's end the world is as it was. (LAID: no walk: one application.) -/
theorem Tryd.strings_Join (bk o c : Nat) (xs : List ByteArray) (sep : ByteArray) (w : World) (hcells : ∀ (j : Nat) x, xs[j]? = some x → w.cell? ⟨bk, o + j, none⟩ = some (.string x)) (hbk : bk < w.heap.size) (hN : xs.length ≤ 140737488355328) (hcap : xs.length ≤ c) (hlen : (Lib.join (xs.map (·.data.toList)) sep.data.toList).length ≤ 140737488355328) :
    Calls Tryd.prog 13 #[.slice (some ⟨bk, o, none⟩) xs.length c, .string sep] w fun e w' => e = .returned (.string ⟨(Lib.join (xs.map (·.data.toList)) sep.data.toList).toArray⟩) ∧ Below w.heap.size w w' := Any.strings_Join Tryd.lays156 Tryd.Builder_Extra_156 bk o c xs sep w hcells hbk hN hcap hlen
def Tryd.laysM171_ren : Go.Shelf.Ren := ⟨fun | 171 => 12 | 243 => 14 | 246 => 18 | 283 => 21 | 284 => 22 | 285 => 23 | 286 => 24 | 129 => 28 | 317 => 27 | 318 => 29 | 319 => 30 | 320 => 31 | 337 => 32 | 338 => 33 | n => n, fun | 3 => 3 | 9 => 9 | 2 => 2 | 4 => 4 | 171 => 44 | 0 => 0 | 53 => 45 | 37 => 25 | 5 => 5 | 173 => 48 | 212 => 55 | 51 => 56 | 20 => 20 | 213 => 57 | 46 => 59 | 232 => 62 | 233 => 63 | n => n, fun | 17 => 0 | 18 => 2 | 19 => 3 | n => n⟩
theorem Tryd.laysM171 : Go.Proofs.LaysM.n171 Tryd.prog Tryd.laysM171_ren := {
  mixed := by kernel_rfl
  f129 := Tryd.func28.trans (congrArg some (by kernel_rfl))
  f171 := Tryd.func12.trans (congrArg some (by kernel_rfl))
  f243 := Tryd.func14.trans (congrArg some (by kernel_rfl))
  f246 := Tryd.func18.trans (congrArg some (by kernel_rfl))
  f283 := Tryd.func21.trans (congrArg some (by kernel_rfl))
  f284 := Tryd.func22.trans (congrArg some (by kernel_rfl))
  f285 := Tryd.func23.trans (congrArg some (by kernel_rfl))
  f286 := Tryd.func24.trans (congrArg some (by kernel_rfl))
  f317 := Tryd.func27.trans (congrArg some (by kernel_rfl))
  f318 := Tryd.func29.trans (congrArg some (by kernel_rfl))
  f319 := Tryd.func30.trans (congrArg some (by kernel_rfl))
  f320 := Tryd.func31.trans (congrArg some (by kernel_rfl))
  f337 := Tryd.func32.trans (congrArg some (by kernel_rfl))
  f338 := Tryd.func33.trans (congrArg some (by kernel_rfl))
  t0 := Tryd.underlying0
  a0 := Tryd.isAgg0
  z0 := Tryd.sizeOf0
  v0 := Tryd.zeroValue0
  t2 := Tryd.underlying2
  a2 := Tryd.isAgg2
  z2 := Tryd.sizeOf2
  v2 := Tryd.zeroValue2
  t3 := Tryd.underlying3
  a3 := Tryd.isAgg3
  z3 := Tryd.sizeOf3
  v3 := Tryd.zeroValue3
  t4 := Tryd.underlying4
  a4 := Tryd.isAgg4
  z4 := Tryd.sizeOf4
  v4 := Tryd.zeroValue4
  t5 := Tryd.underlying5
  a5 := Tryd.isAgg5
  z5 := Tryd.sizeOf5
  v5 := Tryd.zeroValue5
  t9 := Tryd.underlying9
  a9 := Tryd.isAgg9
  z9 := Tryd.sizeOf9
  v9 := Tryd.zeroValue9
  t20 := Tryd.underlying20
  a20 := Tryd.isAgg20
  z20 := Tryd.sizeOf20
  v20 := Tryd.zeroValue20
  t37 := Tryd.underlying25
  a37 := Tryd.isAgg25
  z37 := Tryd.sizeOf25
  v37 := Tryd.zeroValue25
  t46 := Tryd.underlying59
  a46 := Tryd.isAgg59
  z46 := Tryd.sizeOf59
  v46 := Tryd.zeroValue59
  t51 := Tryd.underlying56
  a51 := Tryd.isAgg56
  z51 := Tryd.sizeOf56
  v51 := Tryd.zeroValue56
  t53 := Tryd.underlying45
  a53 := Tryd.isAgg45
  z53 := Tryd.sizeOf45
  v53 := Tryd.zeroValue45
  t171 := Tryd.underlying44
  a171 := Tryd.isAgg44
  z171 := Tryd.sizeOf44
  v171 := Tryd.zeroValue44
  t173 := Tryd.underlying48
  a173 := Tryd.isAgg48
  z173 := Tryd.sizeOf48
  v173 := Tryd.zeroValue48
  t212 := Tryd.underlying55
  a212 := Tryd.isAgg55
  z212 := Tryd.sizeOf55
  v212 := Tryd.zeroValue55
  t213 := Tryd.underlying57
  a213 := Tryd.isAgg57
  z213 := Tryd.sizeOf57
  t232 := Tryd.underlying62
  a232 := Tryd.isAgg62
  z232 := Tryd.sizeOf62
  v232 := Tryd.zeroValue62
  t233 := Tryd.underlying63
  a233 := Tryd.isAgg63
  z233 := Tryd.sizeOf63
  v233 := Tryd.zeroValue63
  g17 := by kernel_rfl
  g18 := by kernel_rfl
  g19 := by kernel_rfl
  i0 := by kernel_rfl
  i2 := by kernel_rfl
  i3 := by kernel_rfl
  i4 := by kernel_rfl
  i5 := by kernel_rfl
  i9 := by kernel_rfl
  i20 := by kernel_rfl
  i37 := by kernel_rfl
  i46 := by kernel_rfl
  i51 := by kernel_rfl
  i53 := by kernel_rfl
  i171 := by kernel_rfl
  i173 := by kernel_rfl
  i212 := by kernel_rfl
  i232 := by kernel_rfl
  i233 := by kernel_rfl
  m17 := by kernel_rfl
  m18 := by kernel_rfl
  m19 := by kernel_rfl }
open Go.RowKit Go.Sort Go.Lib in
/-- strconv.Itoa: "Itoa is equivalent to FormatInt(int64(i), 10).": i's DECIMAL NUMERAL ('Lib.itoa': a '-' where i is negative, then the digits), FOR EVERY int. The world behind the call: the world before it, new blocks behind the heap (the library's 'var a [24]byte'), draws. (LAID: no walk: one application.) -/
theorem Tryd.strconv_Itoa (n : Int) (h0 : -9223372036854775808 ≤ n) (h1 : n ≤ 9223372036854775807) (w : World) (htab : Lib.TabIs Tryd.prog w "internal/strconv.uint64pow10" .u64 Lib.pow10Tab) :
    Calls Tryd.prog 12 #[.int .i64 n] w fun e w' => e = .returned (.string ⟨(Lib.itoa n).toArray⟩) ∧ ∃ k os, w' = grow (w.drewN k) os := Any.strconv_Itoa Tryd.laysM171 n h0 h1 w htab
end Go.Proofs
