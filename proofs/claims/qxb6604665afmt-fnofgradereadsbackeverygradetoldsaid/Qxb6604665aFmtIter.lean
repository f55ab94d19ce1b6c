/-
  DERIVED: the shelf's contracts on slices.Sorted over maps.Keys, laid at this dump in plain words (by the kit's lay-iter.mjs and lay-plain.mjs).
-/
import Derived.Shelf.SlIter.Nil
import Derived.Shelf.SortM.Plain
import Derived.Shelf.SortM.SortNone
import Derived.Test.Qxb6604665aFmtProg
namespace Go.Proofs
open Go.RowKit Go.Maps Go.Sort Go.Shelf

def Tryf.keys21_ren : Go.Shelf.Ren := ⟨fun | 7 => 21 | 10 => 32 | n => n, fun | 23 => 28 | 26 => 9 | 3 => 35 | 28 => 60 | 0 => 0 | 27 => 59 | 33 => 76 | 4 => 4 | n => n, fun | n => n⟩
theorem Tryf.keys21 : Go.Proofs.SlLaysZ.n7 Tryf.prog Tryf.keys21_ren := {
  mixed := by kernel_rfl
  f7 := ⟨Tryf.f21.name, by decide, Tryf.func21.trans (congrArg some (by kernel_rfl))⟩
  f10 := ⟨Tryf.f32.name, by decide, Tryf.func32.trans (congrArg some (by kernel_rfl))⟩
  t0 := Tryf.underlying0
  a0 := Tryf.isAgg0
  z0 := Tryf.sizeOf0
  v0 := Tryf.zeroValue0
  t4 := Tryf.underlying4
  a4 := Tryf.isAgg4
  z4 := Tryf.sizeOf4
  v4 := Tryf.zeroValue4
  t23 := Tryf.underlying28
  a23 := Tryf.isAgg28
  z23 := Tryf.sizeOf28
  v23 := Tryf.zeroValue28
  t26 := Tryf.underlying9
  a26 := Tryf.isAgg9
  z26 := Tryf.sizeOf9
  v26 := Tryf.zeroValue9
  t27 := Tryf.underlying59
  a27 := Tryf.isAgg59
  z27 := Tryf.sizeOf59
  v27 := Tryf.zeroValue59
  t28 := Tryf.underlying60
  a28 := Tryf.isAgg60
  z28 := Tryf.sizeOf60
  v28 := Tryf.zeroValue60
  t33 := Tryf.underlying76
  a33 := Tryf.isAgg76
  z33 := Tryf.sizeOf76
  v33 := Tryf.zeroValue76 }
def Tryf.sorted20_ren : Go.Shelf.Ren := ⟨fun | 6 => 20 | 8 => 30 | 9 => 31 | 11 => 38 | 13 => 40 | 12 => 39 | 23 => 59 | 24 => 60 | 14 => 50 | 15 => 51 | 16 => 52 | 17 => 53 | 18 => 54 | 19 => 55 | 20 => 56 | 21 => 57 | 22 => 58 | 25 => 61 | 26 => 62 | 27 => 63 | 28 => 64 | 29 => 65 | 30 => 66 | 31 => 67 | n => n, fun | 26 => 9 | 28 => 60 | 24 => 57 | 0 => 0 | 3 => 3 | 37 => 85 | 48 => 107 | 50 => 91 | 4 => 4 | 40 => 99 | 39 => 98 | 45 => 104 | 5 => 5 | 9 => 9 | 51 => 109 | 55 => 113 | 57 => 115 | 58 => 116 | 33 => 76 | n => n, fun | n => n⟩
theorem Tryf.sorted20 : Go.Proofs.SlLaysZ.n6 Tryf.prog Tryf.sorted20_ren := {
  mixed := by kernel_rfl
  f6 := ⟨Tryf.f20.name, by decide, Tryf.func20.trans (congrArg some (by kernel_rfl))⟩
  f8 := ⟨Tryf.f30.name, by decide, Tryf.func30.trans (congrArg some (by kernel_rfl))⟩
  f11 := ⟨Tryf.f38.name, by decide, Tryf.func38.trans (congrArg some (by kernel_rfl))⟩
  t0 := Tryf.underlying0
  a0 := Tryf.isAgg0
  z0 := Tryf.sizeOf0
  v0 := Tryf.zeroValue0
  t24 := Tryf.underlying57
  a24 := Tryf.isAgg57
  z24 := Tryf.sizeOf57
  v24 := Tryf.zeroValue57
  t26 := Tryf.underlying9
  a26 := Tryf.isAgg9
  z26 := Tryf.sizeOf9
  v26 := Tryf.zeroValue9
  t28 := Tryf.underlying60
  a28 := Tryf.isAgg60
  z28 := Tryf.sizeOf60
  v28 := Tryf.zeroValue60
  i26 := by kernel_rfl }
def Tryf.sort31_ren : Go.Shelf.Ren := ⟨fun | 6 => 31 | 8 => 40 | 9 => 39 | 19 => 59 | 20 => 60 | 21 => 50 | 22 => 51 | 23 => 52 | 24 => 53 | 25 => 54 | 26 => 55 | 27 => 56 | 28 => 57 | 29 => 58 | 36 => 61 | 31 => 62 | 32 => 63 | 37 => 64 | 38 => 65 | 39 => 66 | 41 => 67 | n => n, fun | 27 => 57 | 29 => 9 | 3 => 3 | 32 => 85 | 26 => 57 | 0 => 0 | 44 => 107 | 46 => 91 | 4 => 4 | 36 => 99 | 35 => 98 | 41 => 104 | 5 => 5 | 9 => 9 | 53 => 109 | 57 => 113 | 63 => 115 | 64 => 116 | n => n, fun | n => n⟩
theorem Tryf.sort31 : Go.Proofs.SlLaysM.n6 Tryf.prog Tryf.sort31_ren := {
  mixed := by kernel_rfl
  f6 := ⟨Tryf.f31.name, by decide, Tryf.func31.trans (congrArg some (by kernel_rfl))⟩
  f8 := Tryf.func40.trans (congrArg some (by kernel_rfl))
  f9 := ⟨Tryf.f39.name, by decide, Tryf.func39.trans (congrArg some (by kernel_rfl))⟩
  f19 := Tryf.func59.trans (congrArg some (by kernel_rfl))
  f20 := Tryf.func60.trans (congrArg some (by kernel_rfl))
  f21 := ⟨Tryf.f50.name, by decide, Tryf.func50.trans (congrArg some (by kernel_rfl))⟩
  f22 := ⟨Tryf.f51.name, by decide, Tryf.func51.trans (congrArg some (by kernel_rfl))⟩
  f23 := ⟨Tryf.f52.name, by decide, Tryf.func52.trans (congrArg some (by kernel_rfl))⟩
  f24 := ⟨Tryf.f53.name, by decide, Tryf.func53.trans (congrArg some (by kernel_rfl))⟩
  f25 := ⟨Tryf.f54.name, by decide, Tryf.func54.trans (congrArg some (by kernel_rfl))⟩
  f26 := ⟨Tryf.f55.name, by decide, Tryf.func55.trans (congrArg some (by kernel_rfl))⟩
  f27 := ⟨Tryf.f56.name, by decide, Tryf.func56.trans (congrArg some (by kernel_rfl))⟩
  f28 := ⟨Tryf.f57.name, by decide, Tryf.func57.trans (congrArg some (by kernel_rfl))⟩
  f29 := ⟨Tryf.f58.name, by decide, Tryf.func58.trans (congrArg some (by kernel_rfl))⟩
  f31 := Tryf.func62.trans (congrArg some (by kernel_rfl))
  f32 := Tryf.func63.trans (congrArg some (by kernel_rfl))
  f36 := ⟨Tryf.f61.name, by decide, Tryf.func61.trans (congrArg some (by kernel_rfl))⟩
  f37 := ⟨Tryf.f64.name, by decide, Tryf.func64.trans (congrArg some (by kernel_rfl))⟩
  f38 := ⟨Tryf.f65.name, by decide, Tryf.func65.trans (congrArg some (by kernel_rfl))⟩
  f39 := ⟨Tryf.f66.name, by decide, Tryf.func66.trans (congrArg some (by kernel_rfl))⟩
  f41 := ⟨Tryf.f67.name, by decide, Tryf.func67.trans (congrArg some (by kernel_rfl))⟩
  t0 := Tryf.underlying0
  a0 := Tryf.isAgg0
  z0 := Tryf.sizeOf0
  v0 := Tryf.zeroValue0
  t3 := Tryf.underlying3
  a3 := Tryf.isAgg3
  z3 := Tryf.sizeOf3
  v3 := Tryf.zeroValue3
  t4 := Tryf.underlying4
  a4 := Tryf.isAgg4
  z4 := Tryf.sizeOf4
  v4 := Tryf.zeroValue4
  t5 := Tryf.underlying5
  a5 := Tryf.isAgg5
  z5 := Tryf.sizeOf5
  v5 := Tryf.zeroValue5
  t9 := Tryf.underlying9
  a9 := Tryf.isAgg9
  z9 := Tryf.sizeOf9
  v9 := Tryf.zeroValue9
  t26 := Tryf.underlying57
  a26 := Tryf.isAgg57
  z26 := Tryf.sizeOf57
  v26 := Tryf.zeroValue57
  t27 := Tryf.underlying57
  a27 := Tryf.isAgg57
  z27 := Tryf.sizeOf57
  v27 := Tryf.zeroValue57
  t29 := Tryf.underlying9
  a29 := Tryf.isAgg9
  z29 := Tryf.sizeOf9
  v29 := Tryf.zeroValue9
  t32 := Tryf.underlying85
  a32 := Tryf.isAgg85
  z32 := Tryf.sizeOf85
  v32 := Tryf.zeroValue85
  t35 := Tryf.underlying98
  a35 := Tryf.isAgg98
  z35 := Tryf.sizeOf98
  v35 := Tryf.zeroValue98
  t36 := Tryf.underlying99
  a36 := Tryf.isAgg99
  z36 := Tryf.sizeOf99
  v36 := Tryf.zeroValue99
  t41 := Tryf.underlying104
  a41 := Tryf.isAgg104
  z41 := Tryf.sizeOf104
  v41 := Tryf.zeroValue104
  t44 := Tryf.underlying107
  a44 := Tryf.isAgg107
  z44 := Tryf.sizeOf107
  v44 := Tryf.zeroValue107
  t46 := Tryf.underlying91
  a46 := Tryf.isAgg91
  z46 := Tryf.sizeOf91
  v46 := Tryf.zeroValue91
  t53 := Tryf.underlying109
  a53 := Tryf.isAgg109
  z53 := Tryf.sizeOf109
  v53 := Tryf.zeroValue109
  t57 := Tryf.underlying113
  a57 := Tryf.isAgg113
  z57 := Tryf.sizeOf113
  v57 := Tryf.zeroValue113
  t63 := Tryf.underlying115
  a63 := Tryf.isAgg115
  z63 := Tryf.sizeOf115
  v63 := Tryf.zeroValue115
  t64 := Tryf.underlying116
  a64 := Tryf.isAgg116
  z64 := Tryf.sizeOf116
  v64 := Tryf.zeroValue116 }

/-- slices.Sort's two contracts at this dump, at the fence that asks nothing. -/
theorem Tryf.sorts20 (m : Nat) : AnyZ.SortsIn Tryf.prog Tryf.sorted20_ren Fence.wide m :=
  ⟨fun blk off cap ss W hH hblk hsz => callsIn_wide.2 (AnyM.slices_Sort_string Tryf.sort31 blk off cap ss W hH hblk hsz),
   fun p cap W => callsIn_wide.2 (AnyM.slices_Sort_string_none Tryf.sort31 p cap W)⟩

/-- **maps.Keys[map[string]github.com/shopspring/decimal.Decimal,string,github.com/shopspring/decimal.Decimal], at whatever map, the nil one too:** a function value over ONE NEW BLOCK, which holds the map. -/
theorem Tryf.maps_Keys_21 (mb : Option Nat) (W : World) : CallsIn Fence.wide 5 Tryf.prog 21 #[.map mb] W fun e w' => e = .returned (.func (.func 32) #[] #[.pointer (some ⟨W.heap.size, 0, none⟩)]) ∧ w' = W.alloc (.cells #[.map mb] 28) :=
  AnyZ.keys_in Tryf.keys21 Fence.wide 5 trivial rfl mb W

set_option maxHeartbeats 1000000 in
/-- **slices.Sorted[string] AT WHAT maps.Keys[map[string]github.com/shopspring/decimal.Decimal,string,github.com/shopspring/decimal.Decimal] HANDED BACK FOR A MAP THAT IS NOT nil** ('w': the world AHEAD of maps.Keys' call): A NEW SLICE THAT HOLDS THE MAP's KEYS, SORTED; nil just where it has none; nothing that lay before has turned. -/
theorem Tryf.slices_Sorted_keys_20_21 {H : Type} (b nn : Nat) (D0 : DataW H) (R : Value → Option (DataW H × List MemPlace)) (w : World) (hown : w.ownsMap Tryf.prog 9 R b nn D0) (hmax : Maps.size D0 ≤ maxLen) (hbytes : Maps.size D0 * 16 ≤ 140737488355328) :
    CallsIn Fence.wide 5 Tryf.prog 20 #[.func (.func 32) #[] #[.pointer (some ⟨w.heap.size, 0, none⟩)]] (w.alloc (.cells #[.map (some b)] 28)) fun e w' => ∃ (v : Value) (ss : List (List UInt8)), e = .returned v ∧ ss.Perm (strKeys D0) ∧
      w'.ownsRow (w.alloc (.cells #[.map (some b)] 28)).heap.size 9 1 v ss.length ((ss.mergeSort (fun x y => decide (x ≤ y))).map encStr) ∧ (v = .slice none 0 0 ↔ ss = []) ∧ Below (w.alloc (.cells #[.map (some b)] 28)).heap.size (w.alloc (.cells #[.map (some b)] 28)) w' := by
  have hbl := hown.lt
  have hseq : SeqGives Fence.wide 2 Tryf.prog 32 #[.pointer (some ⟨w.heap.size, 0, none⟩)] encStr (fun ss => ss.Perm (strKeys D0)) (Maps.size D0) (w.alloc (.cells #[.map (some b)] 28)) :=
    AnyZ.keys_gives (ρ := Tryf.keys21_ren) { Tryf.keys21 with } Fence.wide _ trivial rfl (by omega) w.heap.size b nn D0 _ (by simp) (by simp) (by
      obtain ⟨es, clock, hb, Ft, hs, hD⟩ := hown
      exact ⟨es, clock, (Below.heap_alloc _ _ b hbl).trans hb, Ft, hs, hD⟩)
  exact AnyZ.sorted_in Tryf.sorted20 Fence.wide 5 trivial trivial trivial trivial rfl (by omega) (Tryf.sorts20 _) (enters_of Tryf.func31 (by kernel_rfl) rfl) 32 #[.pointer (some ⟨w.heap.size, 0, none⟩)] trivial (enters_of Tryf.func32 (by kernel_rfl) rfl) _ _ hmax hbytes _ hseq

set_option maxHeartbeats 1000000 in
/-- **.. AND FOR THE nil MAP: nil.** -/
theorem Tryf.slices_Sorted_keys_nil_20_21 (w : World) :
    CallsIn Fence.wide 5 Tryf.prog 20 #[.func (.func 32) #[] #[.pointer (some ⟨w.heap.size, 0, none⟩)]] (w.alloc (.cells #[.map none] 28)) fun e w' => ∃ (v : Value) (ss : List (List UInt8)), e = .returned v ∧ ss = [] ∧
      w'.ownsRow (w.alloc (.cells #[.map none] 28)).heap.size 9 1 v ss.length ((ss.mergeSort (fun x y => decide (x ≤ y))).map encStr) ∧ (v = .slice none 0 0 ↔ ss = []) ∧ Below (w.alloc (.cells #[.map none] 28)).heap.size (w.alloc (.cells #[.map none] 28)) w' := by
  have hseq : SeqGives Fence.wide 2 Tryf.prog 32 #[.pointer (some ⟨w.heap.size, 0, none⟩)] encStr (fun ss : List (List UInt8) => ss = []) 0 (w.alloc (.cells #[.map none] 28)) :=
    AnyZ.keys_gives_nil (ρ := Tryf.keys21_ren) { Tryf.keys21 with } Fence.wide _ trivial rfl w.heap.size _ (by simp) (by simp)
  exact AnyZ.sorted_in Tryf.sorted20 Fence.wide 5 trivial trivial trivial trivial rfl (by omega) (Tryf.sorts20 _) (enters_of Tryf.func31 (by kernel_rfl) rfl) 32 #[.pointer (some ⟨w.heap.size, 0, none⟩)] trivial (enters_of Tryf.func32 (by kernel_rfl) rfl) _ 0 (Nat.zero_le _) (by omega) _ hseq


end Go.Proofs
