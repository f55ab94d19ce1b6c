/-
  DERIVED. strconv.FormatUint at base 10.
-/
import Derived.Test.Qxb6603154aDoorRows
import Derived.Test.Qxb6603154aDoorShelf
import Derived.Lib.ItoaLen
import Derived.Lib.ItoaMem
import Derived.Lib.AppendIntMem
import Derived.Lib.Walk
import Derived.WalkKit
import Derived.WalkSpells
import Derived.WalkLawsBesides
import Derived.RegionTactic
import Derived.BigQuiet
import Derived.BigCall
import Derived.BigGuard
namespace Go.Proofs.Qxb6603154aDoor
open Go.RowKit Go.Sort
set_option linter.unusedVariables false

theorem Hid.mk {p : Prop} (h : p) : Hid p := h
theorem int_val {k : IntKind} {a b : Int} (h : a = b) : Value.int k a = Value.int k b := by rw [h]

/-- The table of the powers of ten. -/
abbrev Tab (w : World) : Prop := Lib.TabIs Tryd.prog w "internal/strconv.uint64pow10" .u64 Lib.pow10Tab
theorem gTab : Tryd.prog.globalNamed "internal/strconv.uint64pow10" = some 0 := by kernel_rfl
theorem Tab.size {w : World} (h : Tab w) : 0 < w.heap.size := by
  unfold Tab Lib.TabIs World.var? at h
  rw [gTab] at h
  by_cases h0 : 0 < w.heap.size
  · exact h0
  · simp [Array.getElem?_eq_none (show w.heap.size ≤ 0 by omega)] at h
theorem Tab.below {w w' : World} {B : Nat} (h : Tab w) (hb : Below B w w') (hB : 0 < B) : Tab w' := by
  unfold Tab Lib.TabIs World.var? at h ⊢
  rw [gTab] at h ⊢
  have := hb.block 0 hB
  simp only [Option.bind_some] at h ⊢
  rw [this]
  exact h

theorem holds0 (w : World) (T : TypeId) (nd : Nat) (hs : nd ≤ 24) : Holds (fun (b : UInt8) => Value.int .u8 (b.toNat : Int)) (w.alloc (.cells Lib.zeros24 T)) w.heap.size 0 (Array.replicate nd (0 : UInt8)) := fun j hj => by
  have hj' : j < nd := by simpa using hj
  refine ⟨?_, World.frozen?_alloc_new _ _ _ _⟩
  rw [World.cell?_alloc_new, Lib.zeros24_at _ (by omega), getElem!_pos _ j hj]
  simp
theorem fin0 (w : World) (o : Obj) (dk : Array UInt8) (k : Nat) : ∃ os, (putRow (fun (b : UInt8) => Value.int .u8 (b.toNat : Int)) (w.alloc o) w.heap.size 0 dk).drewN k = grow (w.drewN k) os := by
  rw [alloc_eq_grow]
  obtain ⟨os', _, e⟩ := putRow_grow_new (fun (b : UInt8) => Value.int .u8 (b.toNat : Int)) w #[o] w.heap.size 0 dk (Nat.le_refl _)
  exact ⟨os', by rw [e]; rfl⟩

set_option maxHeartbeats 6400000 in
set_option maxRecDepth 100000 in
theorem fmt_inner (u : Nat) (hu64 : u < 18446744073709551616) (w : World) (htab : Tab w) :
    Calls Tryd.prog 30 #[.int .u64 u, .int .i64 10] w fun e w' => e = .returned (.string ⟨(Lib.decDigits u).toArray⟩) ∧ Below w.heap.size w w' := by
  by_cases hs : u < 100
  · have hI : (u : Int) < 100 := by omega
    go_enter Tryd.func30, Tryd.ntmps30
    go_wp2_with fail
    refine (Tryd.internal_strconv_small u hs _).mono ?_
    rintro e w' ⟨rfl, hw⟩
    obtain rfl := hw.symm
    go_wp2
    go_ret
    exact ⟨rfl, Below.refl _ _⟩
  · have hI : ¬ (u : Int) < 100 := by omega
    have hu1 : 1 ≤ u := by omega
    have hnd20 : Lib.nDigits u ≤ 20 := Lib.nDigits_le20 u hu64
    have hal : Tryd.prog.arrayLen 70 = 24 := by simp [Program.arrayLen, Tryd.underlying70]
    have hsl1 : ∀ W, (Instr.sliceAt 70 (.pointer (some ⟨w.heap.size, 0, none⟩)) none (some (.int .i64 (Lib.nDigits u : Int))) none).run Tryd.prog W = .ok (.slice (some ⟨w.heap.size, 0, none⟩) (Lib.nDigits u) 24) W := fun W => by
      rw [run_sliceAt_array_h W 70 ⟨w.heap.size, 0, none⟩ (by simp [Program.arrayLen, Program.elem, Tryd.underlying70]) .i64 (Lib.nDigits u : Int) (by omega) (by rw [hal]; omega)]
      go_simp
    have hH0 := holds0 w 70 (Lib.nDigits u) (by omega)
    have hfmt := Tryd.internal_strconv_formatBase10 w.heap.size 0 24 u (Array.replicate (Lib.nDigits u) 0) (w.alloc (.cells Lib.zeros24 70)) hH0 (by rw [Array.size_replicate]; exact Lib.lt_pow_nDigits u) hu64 (by rw [Array.size_replicate]; omega)
    rw [Array.size_replicate] at hfmt
    have HH0 := Hid.mk hH0
    have HF := Hid.mk hfmt
    clear hH0 hal hfmt
    go_enter Tryd.func30, Tryd.ntmps30
    go_wp2_with fail
    refine (Tryd.internal_strconv_numDigits u hu1 hu64 _ (Lib.tabIs_alloc htab _)).mono ?_
    rintro e w' ⟨rfl, hw⟩
    obtain rfl := hw.symm
    go_wp2_with fail
    refine HF.out.mono ?_
    rintro e w' ⟨rfl, k, v', dk, rfl, hF⟩
    have hcv : (convert 41 9 (.slice (some ⟨w.heap.size, 0, none⟩) (Lib.nDigits u) 24)).run Tryd.prog ((putRow (fun (b : UInt8) => Value.int .u8 (b.toNat : Int)) (w.alloc (.cells Lib.zeros24 70)) w.heap.size 0 dk).drewN k) = .ok (.string ⟨(Lib.decDigits u).toArray⟩) ((putRow (fun (b : UInt8) => Value.int .u8 (b.toNat : Int)) (w.alloc (.cells Lib.zeros24 70)) w.heap.size 0 dk).drewN k) := by
      have h := run_convert_bytes_back (P := Tryd.prog) ((putRow (fun (b : UInt8) => Value.int .u8 (b.toNat : Int)) (w.alloc (.cells Lib.zeros24 70)) w.heap.size 0 dk).drewN k) 41 9 5 ⟨w.heap.size, 0, none⟩ 24 (Lib.decDigits u) Tryd.underlying41 Tryd.underlying5 Tryd.underlying9 (fun j hj => by
        rw [Lib.row_is_numeral hF j hj, Lib.add_plain, World.cell?_drewN]
        exact cell?_putRow (fun (b : UInt8) => Value.int .u8 (b.toNat : Int)) _ w.heap.size 0 _ dk HH0.out (by rw [hF.size, Array.size_replicate]) j (by rw [hF.size]; rw [Lib.decDigits_length] at hj; exact hj))
      rw [Lib.decDigits_length] at h
      exact h
    go_wp2
    go_ret
    obtain ⟨os, eo⟩ := fin0 w (.cells Lib.zeros24 70) dk k
    refine ⟨rfl, ?_⟩
    rw [eo]
    exact Lib.below_grow _ _ (Nat.le_refl _) _ _

theorem fmt_any (u : Nat) (hu64 : u < 18446744073709551616) (w : World) (htab : Tab w) :
    Calls Tryd.prog 23 #[.int .u64 u, .int .i64 10] w fun e w' => e = .returned (.string ⟨(Lib.decDigits u).toArray⟩) ∧ Below w.heap.size w w' := by
  have HF := Hid.mk (fmt_inner u hu64 w htab)
  generalize (⟨(Lib.decDigits u).toArray⟩ : ByteArray) = s at *
  clear htab
  go_enter Tryd.func23, Tryd.ntmps23
  go_wp2_with fail
  refine HF.out.mono ?_
  rintro e w' ⟨rfl, hb⟩
  go_wp2
  go_ret
  exact ⟨rfl, hb⟩

end Go.Proofs.Qxb6603154aDoor
