/-
  DERIVED: contracts of the shelf laid at this dump in plain words (by the kit's lay-shelf.mjs and lay-plain.mjs; the layings of WriteByte and WriteString by hand, for the tool did not lay them): strings.Builder's methods, and the parts of strconv.FormatUint.
-/
import Derived.Shelf.Strings.Builder1
import Derived.Shelf.Strings.BuilderF
import Derived.Shelf.Strings.BuilderK
import Derived.Shelf.Strconv.Itoa0
import Derived.Shelf.Strconv.Itoa1
import Derived.Shelf.LaysM
import Derived.Shelf.Strconv.Itoa2
import Derived.Test.Qxb6603154aDoorProg
namespace Go.Proofs
open Go.Shelf Go.RowKit Go.Sort Go.Lib
def Tryd.lays170_ren : Go.Shelf.Ren := ⟨fun | 170 => 20 | n => n, fun | 70 => 43 | 3 => 3 | 0 => 0 | 72 => 45 | 37 => 41 | 5 => 5 | n => n, fun | n => n⟩
theorem Tryd.lays170 : Go.Proofs.Lays.n170 Tryd.prog Tryd.lays170_ren := {
  mixed := by kernel_rfl
  f170 := Tryd.func20.trans (congrArg some (by kernel_rfl))
  t0 := Tryd.underlying0
  a0 := Tryd.isAgg0
  z0 := Tryd.sizeOf0
  v0 := Tryd.zeroValue0
  t3 := Tryd.underlying3
  a3 := Tryd.isAgg3
  z3 := Tryd.sizeOf3
  v3 := Tryd.zeroValue3
  t37 := Tryd.underlying41
  a37 := Tryd.isAgg41
  z37 := Tryd.sizeOf41
  v37 := Tryd.zeroValue41
  t70 := Tryd.underlying43
  a70 := Tryd.isAgg43
  z70 := Tryd.sizeOf43
  v70 := Tryd.zeroValue43
  t72 := Tryd.underlying45
  a72 := Tryd.isAgg45
  z72 := Tryd.sizeOf45
  v72 := Tryd.zeroValue45 }
def Tryd.lays169_ren : Go.Shelf.Ren := ⟨fun | 169 => 24 | n => n, fun | 70 => 43 | 9 => 9 | 0 => 0 | 72 => 45 | 37 => 41 | 127 => 62 | 3 => 3 | 5 => 5 | n => n, fun | n => n⟩
theorem Tryd.lays169 : Go.Proofs.Lays.n169 Tryd.prog Tryd.lays169_ren := {
  mixed := by kernel_rfl
  f169 := Tryd.func24.trans (congrArg some (by kernel_rfl))
  t0 := Tryd.underlying0
  a0 := Tryd.isAgg0
  z0 := Tryd.sizeOf0
  v0 := Tryd.zeroValue0
  t3 := Tryd.underlying3
  a3 := Tryd.isAgg3
  z3 := Tryd.sizeOf3
  v3 := Tryd.zeroValue3
  t9 := Tryd.underlying9
  a9 := Tryd.isAgg9
  z9 := Tryd.sizeOf9
  v9 := Tryd.zeroValue9
  t37 := Tryd.underlying41
  a37 := Tryd.isAgg41
  z37 := Tryd.sizeOf41
  v37 := Tryd.zeroValue41
  t70 := Tryd.underlying43
  a70 := Tryd.isAgg43
  z70 := Tryd.sizeOf43
  v70 := Tryd.zeroValue43
  t72 := Tryd.underlying45
  a72 := Tryd.isAgg45
  z72 := Tryd.sizeOf45
  v72 := Tryd.zeroValue45
  t127 := Tryd.underlying62
  a127 := Tryd.isAgg62
  z127 := Tryd.sizeOf62
  v127 := Tryd.zeroValue62 }
theorem Tryd.Builder_Extra_169 : Builder.Extra Tryd.prog Tryd.lays169_ren := {
  sizeBuilder := by kernel_rfl
  liesBuilder := by kernel_rfl
  t5 := Tryd.underlying5
  a5 := Tryd.isAgg5
  z5 := Tryd.sizeOf5
  v5 := Tryd.zeroValue5
  infoByte := by kernel_rfl
  cellsByte := by kernel_rfl
  sizeByte := by kernel_rfl
  neB5 := by decide }
theorem Tryd.Builder_Len_f (B b : Nat) (bs : List Value) (w : World) (h : Lib.IsBuilderF 45 5 B b bs w) :
    Calls Tryd.prog 20 #[.pointer (some ⟨b, 0, none⟩)] w fun e w' => e = .returned (.int .i64 bs.length) ∧ w' = w := Any.Builder_Len_f Tryd.lays170 B b bs w h
theorem Tryd.Builder_String_any_k (B b : Nat) (l : List UInt8) (w : World) (h : Lib.IsBuilderF 45 5 B b (Lib.byteCells l) w) (hBw : B ≤ w.heap.size) :
    Calls Tryd.prog 24 #[.pointer (some ⟨b, 0, none⟩)] w fun e w' => e = .returned (.string ⟨l.toArray⟩) ∧ (Lib.IsBuilderF 45 5 B b (Lib.byteCells l) w' ∧ Below B w w' ∧ Lib.OthersKept 5 (some b) w w') := Any.Builder_String_any_k Tryd.lays169 Tryd.Builder_Extra_169 B b l w h hBw
def Tryd.lays129_ren : Go.Shelf.Ren := ⟨fun | 129 => 42 | n => n, fun | 53 => 25 | 3 => 3 | 4 => 4 | 46 => 26 | 5 => 5 | 9 => 9 | n => n, fun | n => n⟩
theorem Tryd.lays129 : Go.Proofs.Lays.n129 Tryd.prog Tryd.lays129_ren := {
  mixed := by kernel_rfl
  f129 := Tryd.func42.trans (congrArg some (by kernel_rfl))
  t3 := Tryd.underlying3
  a3 := Tryd.isAgg3
  z3 := Tryd.sizeOf3
  v3 := Tryd.zeroValue3
  t4 := Tryd.underlying4
  a4 := Tryd.isAgg4
  z4 := Tryd.sizeOf4
  v4 := Tryd.zeroValue4
  t5 := Tryd.underlying5
  a5 := Tryd.isAgg5
  z5 := Tryd.sizeOf5
  v5 := Tryd.zeroValue5
  t9 := Tryd.underlying9
  a9 := Tryd.isAgg9
  z9 := Tryd.sizeOf9
  v9 := Tryd.zeroValue9
  t46 := Tryd.underlying26
  a46 := Tryd.isAgg26
  z46 := Tryd.sizeOf26
  v46 := Tryd.zeroValue26
  t53 := Tryd.underlying25
  a53 := Tryd.isAgg25
  z53 := Tryd.sizeOf25
  v53 := Tryd.zeroValue25 }
/-- bits.Len64: "Len64 returns the minimum number of bits required to represent x; the result is 0 for x == 0.": IT RETURNS 'Lib.bitLen x'; the world is as it was. ('h0', 'h1': x is a uint64.) (LAID: no walk: one application.) -/
def Tryd.lays317_ren : Go.Shelf.Ren := ⟨fun | 317 => 41 | n => n, fun | 3 => 3 | 46 => 26 | n => n, fun | n => n⟩
theorem Tryd.lays317 : Go.Proofs.Lays.n317 Tryd.prog Tryd.lays317_ren := {
  mixed := by kernel_rfl
  f317 := Tryd.func41.trans (congrArg some (by kernel_rfl))
  t3 := Tryd.underlying3
  a3 := Tryd.isAgg3
  z3 := Tryd.sizeOf3
  v3 := Tryd.zeroValue3
  t46 := Tryd.underlying26
  a46 := Tryd.isAgg26
  z46 := Tryd.sizeOf26
  v46 := Tryd.zeroValue26 }
def Tryd.lays318_ren : Go.Shelf.Ren := ⟨fun | 318 => 43 | n => n, fun | 3 => 3 | 4 => 4 | n => n, fun | n => n⟩
theorem Tryd.lays318 : Go.Proofs.Lays.n318 Tryd.prog Tryd.lays318_ren := {
  mixed := by kernel_rfl
  f318 := Tryd.func43.trans (congrArg some (by kernel_rfl))
  t3 := Tryd.underlying3
  a3 := Tryd.isAgg3
  z3 := Tryd.sizeOf3
  v3 := Tryd.zeroValue3
  t4 := Tryd.underlying4
  a4 := Tryd.isAgg4
  z4 := Tryd.sizeOf4
  v4 := Tryd.zeroValue4 }
def Tryd.lays283_ren : Go.Shelf.Ren := ⟨fun | 283 => 35 | n => n, fun | 3 => 3 | 9 => 9 | 4 => 4 | n => n, fun | n => n⟩
theorem Tryd.lays283 : Go.Proofs.Lays.n283 Tryd.prog Tryd.lays283_ren := {
  mixed := by kernel_rfl
  f283 := Tryd.func35.trans (congrArg some (by kernel_rfl))
  t3 := Tryd.underlying3
  a3 := Tryd.isAgg3
  z3 := Tryd.sizeOf3
  v3 := Tryd.zeroValue3
  t4 := Tryd.underlying4
  a4 := Tryd.isAgg4
  z4 := Tryd.sizeOf4
  v4 := Tryd.zeroValue4
  t9 := Tryd.underlying9
  a9 := Tryd.isAgg9
  z9 := Tryd.sizeOf9
  v9 := Tryd.zeroValue9 }
theorem Tryd.internal_strconv_small (i : Nat) (h : i < 100) (w : World) :
    Calls Tryd.prog 35 #[.int .i64 i] w fun e w' => e = .returned (.string ⟨(Lib.decDigits i).toArray⟩) ∧ w' = w := Any.internal_strconv_small Tryd.lays283 i h w
def Tryd.laysM284_ren : Go.Shelf.Ren := ⟨fun | 284 => 36 | 129 => 42 | 317 => 41 | 318 => 43 | n => n, fun | 53 => 25 | 3 => 3 | 212 => 78 | 0 => 0 | 4 => 4 | 46 => 26 | 5 => 5 | 9 => 9 | n => n, fun | 17 => 0 | n => n⟩
theorem Tryd.laysM284 : Go.Proofs.LaysM.n284 Tryd.prog Tryd.laysM284_ren := {
  mixed := by kernel_rfl
  f129 := Tryd.func42.trans (congrArg some (by kernel_rfl))
  f284 := Tryd.func36.trans (congrArg some (by kernel_rfl))
  f317 := Tryd.func41.trans (congrArg some (by kernel_rfl))
  f318 := Tryd.func43.trans (congrArg some (by kernel_rfl))
  t0 := Tryd.underlying0
  a0 := Tryd.isAgg0
  z0 := Tryd.sizeOf0
  v0 := Tryd.zeroValue0
  t3 := Tryd.underlying3
  a3 := Tryd.isAgg3
  z3 := Tryd.sizeOf3
  v3 := Tryd.zeroValue3
  t4 := Tryd.underlying4
  a4 := Tryd.isAgg4
  z4 := Tryd.sizeOf4
  v4 := Tryd.zeroValue4
  t5 := Tryd.underlying5
  a5 := Tryd.isAgg5
  z5 := Tryd.sizeOf5
  v5 := Tryd.zeroValue5
  t9 := Tryd.underlying9
  a9 := Tryd.isAgg9
  z9 := Tryd.sizeOf9
  v9 := Tryd.zeroValue9
  t46 := Tryd.underlying26
  a46 := Tryd.isAgg26
  z46 := Tryd.sizeOf26
  v46 := Tryd.zeroValue26
  t53 := Tryd.underlying25
  a53 := Tryd.isAgg25
  z53 := Tryd.sizeOf25
  v53 := Tryd.zeroValue25
  t212 := Tryd.underlying78
  a212 := Tryd.isAgg78
  z212 := Tryd.sizeOf78
  v212 := Tryd.zeroValue78
  g17 := by kernel_rfl
  i0 := by kernel_rfl
  i3 := by kernel_rfl
  i4 := by kernel_rfl
  i5 := by kernel_rfl
  i9 := by kernel_rfl
  i46 := by kernel_rfl
  i53 := by kernel_rfl
  i212 := by kernel_rfl
  m17 := by kernel_rfl }
theorem Tryd.internal_strconv_numDigits (u : Nat) (h1 : 1 ≤ u) (h2 : u < 18446744073709551616) (w : World) (htab : Lib.TabIs Tryd.prog w "internal/strconv.uint64pow10" .u64 Lib.pow10Tab) :
    Calls Tryd.prog 36 #[.int .u64 u] w fun e w' => e = .returned (.int .i64 (Lib.nDigits u)) ∧ w' = w := Any.internal_strconv_numDigits Tryd.laysM284 u h1 h2 w htab
def Tryd.lays285_ren : Go.Shelf.Ren := ⟨fun | 285 => 37 | n => n, fun | 37 => 41 | 53 => 25 | 3 => 3 | 4 => 4 | 51 => 79 | 9 => 9 | 5 => 5 | 0 => 0 | n => n, fun | n => n⟩
theorem Tryd.lays285 : Go.Proofs.Lays.n285 Tryd.prog Tryd.lays285_ren := {
  mixed := by kernel_rfl
  f285 := Tryd.func37.trans (congrArg some (by kernel_rfl))
  t0 := Tryd.underlying0
  a0 := Tryd.isAgg0
  z0 := Tryd.sizeOf0
  v0 := Tryd.zeroValue0
  t3 := Tryd.underlying3
  a3 := Tryd.isAgg3
  z3 := Tryd.sizeOf3
  v3 := Tryd.zeroValue3
  t4 := Tryd.underlying4
  a4 := Tryd.isAgg4
  z4 := Tryd.sizeOf4
  v4 := Tryd.zeroValue4
  t5 := Tryd.underlying5
  a5 := Tryd.isAgg5
  z5 := Tryd.sizeOf5
  v5 := Tryd.zeroValue5
  t9 := Tryd.underlying9
  a9 := Tryd.isAgg9
  z9 := Tryd.sizeOf9
  v9 := Tryd.zeroValue9
  t37 := Tryd.underlying41
  a37 := Tryd.isAgg41
  z37 := Tryd.sizeOf41
  v37 := Tryd.zeroValue41
  t51 := Tryd.underlying79
  a51 := Tryd.isAgg79
  z51 := Tryd.sizeOf79
  v51 := Tryd.zeroValue79
  t53 := Tryd.underlying25
  a53 := Tryd.isAgg25
  z53 := Tryd.sizeOf25
  v53 := Tryd.zeroValue25 }
theorem Tryd.internal_strconv_formatBase10 (blk off cap : Nat) (u : Nat) (d : Array UInt8) (w : World) (hH : Holds (fun (b : UInt8) => Value.int .u8 (b.toNat : Int)) w blk off d) (hu : u < 10 ^ d.size) (hu64 : u < 18446744073709551616) (hsz : d.size < 4611686018427387904) :
    Calls Tryd.prog 37 #[.slice (some ⟨blk, off, none⟩) d.size cap, .int .u64 u] w fun e w' =>
      e = .returned (.tuple #[]) ∧ ∃ (n v' : Nat) (dk : Array UInt8), w' = (putRow (fun (b : UInt8) => Value.int .u8 (b.toNat : Int)) w blk off dk).drewN n ∧ FmtInv d.size u 0 v' dk := Any.internal_strconv_formatBase10 Tryd.lays285 blk off cap u d w hH hu hu64 hsz
def Tryd.laysB_ren : Go.Shelf.Ren := ⟨fun | 166 => 22 | 167 => 21 | 240 => 29 | 276 => 34 | n => n, fun | 0 => 0 | 3 => 3 | 4 => 4 | 5 => 5 | 9 => 9 | 20 => 20 | 37 => 41 | 70 => 43 | 72 => 45 | 75 => 49 | 80 => 54 | 127 => 62 | 164 => 67 | n => n, fun | n => n⟩
theorem Tryd.laysB166 : Go.Proofs.Lays.n166 Tryd.prog Tryd.laysB_ren := {
  mixed := by kernel_rfl
  f166 := Tryd.func22.trans (congrArg some (by kernel_rfl))
  f240 := Tryd.func29.trans (congrArg some (by kernel_rfl))
  f276 := Tryd.func34.trans (congrArg some (by kernel_rfl))
  t0 := Tryd.underlying0
  a0 := Tryd.isAgg0
  z0 := Tryd.sizeOf0
  v0 := Tryd.zeroValue0
  t3 := Tryd.underlying3
  a3 := Tryd.isAgg3
  z3 := Tryd.sizeOf3
  v3 := Tryd.zeroValue3
  t4 := Tryd.underlying4
  a4 := Tryd.isAgg4
  z4 := Tryd.sizeOf4
  v4 := Tryd.zeroValue4
  t9 := Tryd.underlying9
  a9 := Tryd.isAgg9
  z9 := Tryd.sizeOf9
  v9 := Tryd.zeroValue9
  t20 := Tryd.underlying20
  a20 := Tryd.isAgg20
  z20 := Tryd.sizeOf20
  v20 := Tryd.zeroValue20
  t37 := Tryd.underlying41
  a37 := Tryd.isAgg41
  z37 := Tryd.sizeOf41
  v37 := Tryd.zeroValue41
  t70 := Tryd.underlying43
  a70 := Tryd.isAgg43
  z70 := Tryd.sizeOf43
  v70 := Tryd.zeroValue43
  t72 := Tryd.underlying45
  a72 := Tryd.isAgg45
  z72 := Tryd.sizeOf45
  v72 := Tryd.zeroValue45
  t75 := Tryd.underlying49
  a75 := Tryd.isAgg49
  z75 := Tryd.sizeOf49
  v75 := Tryd.zeroValue49
  t164 := Tryd.underlying67
  a164 := Tryd.isAgg67
  z164 := Tryd.sizeOf67
  v164 := Tryd.zeroValue67 }
theorem Tryd.laysB167 : Go.Proofs.Lays.n167 Tryd.prog Tryd.laysB_ren := {
  mixed := by kernel_rfl
  f167 := Tryd.func21.trans (congrArg some (by kernel_rfl))
  f240 := Tryd.func29.trans (congrArg some (by kernel_rfl))
  f276 := Tryd.func34.trans (congrArg some (by kernel_rfl))
  t0 := Tryd.underlying0
  a0 := Tryd.isAgg0
  z0 := Tryd.sizeOf0
  v0 := Tryd.zeroValue0
  t4 := Tryd.underlying4
  a4 := Tryd.isAgg4
  z4 := Tryd.sizeOf4
  v4 := Tryd.zeroValue4
  t5 := Tryd.underlying5
  a5 := Tryd.isAgg5
  z5 := Tryd.sizeOf5
  v5 := Tryd.zeroValue5
  t9 := Tryd.underlying9
  a9 := Tryd.isAgg9
  z9 := Tryd.sizeOf9
  v9 := Tryd.zeroValue9
  t20 := Tryd.underlying20
  a20 := Tryd.isAgg20
  z20 := Tryd.sizeOf20
  v20 := Tryd.zeroValue20
  t37 := Tryd.underlying41
  a37 := Tryd.isAgg41
  z37 := Tryd.sizeOf41
  v37 := Tryd.zeroValue41
  t70 := Tryd.underlying43
  a70 := Tryd.isAgg43
  z70 := Tryd.sizeOf43
  v70 := Tryd.zeroValue43
  t72 := Tryd.underlying45
  a72 := Tryd.isAgg45
  z72 := Tryd.sizeOf45
  v72 := Tryd.zeroValue45
  t75 := Tryd.underlying49
  a75 := Tryd.isAgg49
  z75 := Tryd.sizeOf49
  v75 := Tryd.zeroValue49
  t164 := Tryd.underlying67
  a164 := Tryd.isAgg67
  z164 := Tryd.sizeOf67
  v164 := Tryd.zeroValue67 }
theorem Tryd.Builder_Extra_B : Builder.Extra Tryd.prog Tryd.laysB_ren := {
  sizeBuilder := by kernel_rfl
  liesBuilder := by kernel_rfl
  t5 := Tryd.underlying5
  a5 := Tryd.isAgg5
  z5 := Tryd.sizeOf5
  v5 := Tryd.zeroValue5
  infoByte := by kernel_rfl
  cellsByte := by kernel_rfl
  sizeByte := by kernel_rfl
  neB5 := by decide }
open Go.RowKit in
/-- WriteByte. -/
theorem Tryd.Builder_WriteByte_k (B b : Nat) (bs : List Value) (c : Int) (w : World) (h : Lib.IsBuilderF 45 5 B b bs w) (hlen : bs.length + 1 ≤ 140737488355328) (hBw : B ≤ w.heap.size) :
    Calls Tryd.prog 21 #[.pointer (some ⟨b, 0, none⟩), .int .u8 c] w fun e w' => e = .returned .nilIface ∧ (Lib.BuilderAtF 45 5 B b (.pointer (some ⟨b, 0, none⟩)) (bs ++ [.int .u8 c]) w' ∧ Below B w w' ∧ Lib.OthersKept 5 (some b) w w') := Any.Builder_WriteByte_k Tryd.laysB167 Tryd.Builder_Extra_B B b bs c w h hlen hBw
open Go.RowKit in
/-- WriteString. -/
theorem Tryd.Builder_WriteString_k (B b : Nat) (bs : List Value) (s : ByteArray) (w : World) (h : Lib.IsBuilderF 45 5 B b bs w) (hlen : bs.length + s.size ≤ 140737488355328) (hBw : B ≤ w.heap.size) :
    Calls Tryd.prog 22 #[.pointer (some ⟨b, 0, none⟩), .string s] w fun e w' => e = .returned (.tuple #[.int .i64 s.size, .nilIface]) ∧ (Lib.BuilderAtF 45 5 B b (.pointer (some ⟨b, 0, none⟩)) (bs ++ Lib.strCells s) w' ∧ Below B w w' ∧ Lib.OthersKept 5 (some b) w w') := Any.Builder_WriteString_k Tryd.laysB166 Tryd.Builder_Extra_B B b bs s w h hlen hBw
end Go.Proofs
