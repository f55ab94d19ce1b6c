/-
  DERIVED. math/big's nat: make, BEUint64.
-/
import Derived.Test.Qxb6604761aC
import Derived.Lib.EndianBits
namespace Go.Proofs.Qxb6604761a
open Go.RowKit
set_option linter.unusedVariables false

theorem Try.info56 : (Try.prog.info? 56).map (fun i => (i.zero, i.size, i.bytes)) = some (some (.int .u64 0), 1, 8) := by kernel_rfl

/-- What nat.make is good for, from nil. -/
def MakeSaid (m : Nat) (w : World) (e : Ending) (w' : World) : Prop :=
  (m = 0 ∧ e = .returned (.slice none 0 0) ∧ w' = w) ∨ (0 < m ∧ ∃ c, e = .returned (.slice (some ⟨w.heap.size, 0, none⟩) m c) ∧ m ≤ c ∧ c ≤ m + 4 ∧ There w' w.heap.size m ∧ w.heap.size < w'.heap.size ∧ Below w.heap.size w w')

theorem made_there (w : World) (m c e : Nat) (z : Value) (hz : z.cells.size = 1) (hmc : m ≤ c) : There (w.alloc (.cells (madeCells z.cells (c * 1)) e)) w.heap.size m := by
  have hh := heap_alloc_new w (.cells (madeCells z.cells (c * 1)) e)
  refine ⟨fun j hj => ?_, fun j => frozen_of_row _ _ _ _ _ hh⟩
  rw [cell_of_row _ _ _ _ _ _ hh]
  exact ⟨_, Array.getElem?_eq_getElem (by rw [size_madeCells]; omega)⟩

set_option maxRecDepth 100000 in
set_option maxHeartbeats 400000 in
theorem nat_make (m : Nat) (w : World) (hm : (m : Int) ≤ 1048576) : Calls Try.prog 42 #[.slice none 0 0, .int .i64 m] w (MakeSaid m w) := by
  obtain ⟨i0, hi, hz0, hz1, hz2⟩ := info_parts Try.info56
  rcases Nat.eq_zero_or_pos m with rfl | hpos
  · go_enter Try.func42, Try.ntmps42
    go_wp2
    go_ret
    exact .inl ⟨rfl, rfl, rfl⟩
  · by_cases h1 : m = 1
    · subst h1
      have hmk := run_make (P := Try.prog) w 48 56 i0 (.int .u64 0) Try.underlying48 hi hz0 .i64 .i64 1 1 (by omega) (by omega) (by rw [hz2]; decide) (by omega)
      rw [hz1] at hmk
      have ht := made_there w 1 1 56 (.int .u64 0) rfl (Nat.le_refl _)
      have HT := Hid.mk ht
      clear ht
      go_enter Try.func42, Try.ntmps42
      go_wp2
      go_ret
      exact .inr ⟨by omega, 1, rfl, Nat.le_refl _, by omega, HT.out, by simp, (Below.refl _ _).alloc (Nat.le_refl _) _⟩
    · have hmk := run_make (P := Try.prog) w 48 56 i0 (.int .u64 0) Try.underlying48 hi hz0 .i64 .i64 (m : Int) ((m : Int) + 4) (by omega) (by omega) (by rw [hz2]; omega) (by omega)
      rw [hz1] at hmk
      rw [show ((m : Int) + 4).toNat = m + 4 by omega, Int.toNat_natCast] at hmk
      have ht := made_there w m (m + 4) 56 (.int .u64 0) rfl (by omega)
      have HT := Hid.mk ht
      clear ht
      have hb : ((m : Int) == 1) = false := by simp; omega
      have hpi : ¬ (m : Int) ≤ 0 := by omega
      clear h1
      go_enter Try.func42, Try.ntmps42
      go_wp2
      go_ret
      exact .inr ⟨hpos, m + 4, rfl, by omega, Nat.le_refl _, (by have h := HT.out; rw [Nat.mul_one] at h; exact h), by simp, (Below.refl _ _).alloc (Nat.le_refl _) _⟩

/-- Eight bytes, the least first, as a number. -/
def num8 (b0 b1 b2 b3 b4 b5 b6 b7 : Nat) : Nat := b0 + b1 * 256 + b2 * 65536 + b3 * 16777216 + b4 * 4294967296 + b5 * 1099511627776 + b6 * 281474976710656 + b7 * 72057594037927936

set_option maxRecDepth 100000 in
set_option maxHeartbeats 2000000 in
theorem be64 (g o n c : Nat) (b0 b1 b2 b3 b4 b5 b6 b7 : Nat) (w : World) (hn : 8 ≤ n)
    (c0 : w.cell? ⟨g, o, none⟩ = some (.int .u8 (b7 : Int))) (c1 : w.cell? ⟨g, o + 1, none⟩ = some (.int .u8 (b6 : Int))) (c2 : w.cell? ⟨g, o + 2, none⟩ = some (.int .u8 (b5 : Int))) (c3 : w.cell? ⟨g, o + 3, none⟩ = some (.int .u8 (b4 : Int)))
    (c4 : w.cell? ⟨g, o + 4, none⟩ = some (.int .u8 (b3 : Int))) (c5 : w.cell? ⟨g, o + 5, none⟩ = some (.int .u8 (b2 : Int))) (c6 : w.cell? ⟨g, o + 6, none⟩ = some (.int .u8 (b1 : Int))) (c7 : w.cell? ⟨g, o + 7, none⟩ = some (.int .u8 (b0 : Int)))
    (h0 : b0 < 256) (h1 : b1 < 256) (h2 : b2 < 256) (h3 : b3 < 256) (h4 : b4 < 256) (h5 : b5 < 256) (h6 : b6 < 256) (h7 : b7 < 256) :
    Calls Try.prog 48 #[.slice (some ⟨g, o, none⟩) n c] w fun e w' => e = .returned (.int .u64 ((num8 b0 b1 b2 b3 b4 b5 b6 b7 : Nat) : Int)) ∧ Below w.heap.size w w' := by
  have hv : ((num8 b0 b1 b2 b3 b4 b5 b6 b7 : Nat) : Int) = (b0 : Int) + (b1 : Int) * 256 + (b2 : Int) * 65536 + (b3 : Int) * 16777216 + (b4 : Int) * 4294967296 + (b5 : Int) * 1099511627776 + (b6 : Int) * 281474976710656 + (b7 : Int) * 72057594037927936 := by
    unfold num8; omega
  have HV := Hid.mk hv
  clear hv
  have q0 : 0 < n := by omega
  have q1 : (1 : Int) < (n : Int) := by omega
  have q2 : (2 : Int) < (n : Int) := by omega
  have q3 : (3 : Int) < (n : Int) := by omega
  have q4 : (4 : Int) < (n : Int) := by omega
  have q5 : (5 : Int) < (n : Int) := by omega
  have q6 : (6 : Int) < (n : Int) := by omega
  have q7 : (7 : Int) < (n : Int) := by omega
  go_enter Try.func48, Try.ntmps48
  go_wp2_with fail
  go_quiet (fail)
  go_wp2
  go_ret
  refine ⟨?_, ⟨rfl, rfl, rfl, Nat.le_refl _, fun _ _ => rfl⟩⟩
  refine congrArg Ending.returned (int_val ?_)
  rw [HV.out]
  simp (disch := omega) only [u64_or8, u64_or16, u64_or24, u64_or32, u64_or40, u64_or48, u64_or56]

end Go.Proofs.Qxb6604761a
