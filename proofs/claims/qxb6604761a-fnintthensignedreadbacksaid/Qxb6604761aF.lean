/-
  DERIVED. math/big's bitLen, BitLen, Sign.
-/
import Derived.Test.Qxb6604761aE
import Derived.Test.Qxb6604761aShelf
namespace Go.Proofs.Qxb6604761a
open Go.RowKit
set_option linter.unusedVariables false

/-- One step of the smear: the word stays within its bit length. -/
theorem smear (x y k : Nat) (hx : x < 18446744073709551616) (h1 : x ≤ y) (h2 : y < 2 ^ Lib.bitLen x) : ∃ z, x ≤ z ∧ z < 2 ^ Lib.bitLen x ∧ z < 18446744073709551616 ∧ bits .or .u64 (y : Int) ((y : Int) / ((2 ^ k : Nat) : Int)) = ((z : Nat) : Int) := by
  have hd : y / 2 ^ k ≤ y := Nat.div_le_self _ _
  obtain ⟨o1, o2⟩ := or_bounds (x := y) (y := y / 2 ^ k) h2 (by omega)
  have c4 := Lib.bitLen_le x 64 (Nat.le_refl _) (by simpa using hx)
  have c5 : 2 ^ Lib.bitLen x ≤ 2 ^ 64 := Nat.pow_le_pow_right (by omega) c4
  have c6 : (2 : Nat) ^ 64 = 18446744073709551616 := by decide
  refine ⟨y ||| y / 2 ^ k, by omega, o2, by omega, ?_⟩
  have e : (y : Int) / ((2 ^ k : Nat) : Int) = ((y / 2 ^ k : Nat) : Int) := by simp
  rw [e, (bits_nat .u64 64 (by decide) wraps_u64 y (y / 2 ^ k) (by omega) (by omega)).2]

set_option maxRecDepth 100000 in
set_option maxHeartbeats 400000 in
theorem bitLen_nil (ga : Option Addr) (c : Nat) (w : World) : Calls Try.prog 37 #[.slice ga 0 c] w (fun e w' => e = .returned (.int .i64 0) ∧ w' = w) := by
  go_enter Try.func37, Try.ntmps37
  go_wp2
  go_ret
  exact ⟨rfl, rfl⟩

set_option maxRecDepth 100000 in
set_option maxHeartbeats 400000 in
theorem bitLen_some (g K c x : Nat) (w : World) (hK : 0 < K) (hK2 : (K : Int) ≤ 1048576) (hc : w.cell? ⟨g, K - 1, none⟩ = some (.int .u64 (x : Int))) (hx : x < 18446744073709551616) (hx0 : x ≠ 0) :
    Calls Try.prog 37 #[.slice (some ⟨g, 0, none⟩) K c] w (fun e w' => e = .returned (.int .i64 ((64 * (K - 1) + Lib.bitLen x : Nat) : Int)) ∧ w' = w) := by
  obtain ⟨_, _, c3⟩ := Lib.bitLenAux_bounds 64 x (by simpa using hx) hx0
  have c4 := Lib.bitLen_le x 64 (Nat.le_refl _) (by simpa using hx)
  have c5 : Lib.bitLenAux 64 x = Lib.bitLen x := rfl
  rw [c5] at c3
  obtain ⟨y1, a1, b1, d1, e1⟩ := smear x x 1 hx (Nat.le_refl _) c3
  obtain ⟨y2, a2, b2, d2, e2⟩ := smear x y1 2 hx a1 b1
  obtain ⟨y3, a3, b3, d3, e3⟩ := smear x y2 4 hx a2 b2
  obtain ⟨y4, a4, b4, d4, e4⟩ := smear x y3 8 hx a3 b3
  obtain ⟨y5, a5, b5, d5, e5⟩ := smear x y4 16 hx a4 b4
  obtain ⟨y6, a6, b6, d6, e6⟩ := smear x y5 32 hx a5 b5
  simp only [Nat.reducePow, Int.cast_ofNat_Int] at e1 e2 e3 e4 e5 e6
  rw [show (y5 : Int) / 4294967296 = (y5 : Int) / 65536 / 65536 by omega] at e6
  have hlen := bitLen_mono hx0 a6 b6 hx
  clear a1 a2 a3 a4 a5 b1 b2 b3 b4 b5 a6 b6 c3 c5
  have HL := Hid.mk hlen
  have hb6 : Lib.bitLen y6 ≤ 64 := by omega
  clear hlen
  have hp : (0 : Int) ≤ (K : Int) - 1 := by omega
  have hp1 : (K : Int) - 1 < (K : Int) := by omega
  go_enter Try.func37, Try.ntmps37
  go_wp2_with fail
  refine (Try.bits_Len (y6 : Int) w (by omega) (by omega)).mono ?_
  rintro e w' ⟨rfl, hw⟩
  obtain rfl := hw.symm
  go_wp2
  go_ret
  exact ⟨congrArg _ (int_val (by rw [HL.out]; omega)), rfl⟩

/-- A *big.Int at block p: its sign and its words. -/
structure IsInt (w : World) (p : Nat) (neg : Bool) (ga : Option Addr) (K c : Nat) : Prop where
  lt : p < w.heap.size
  sgn : w.cell? ⟨p, 0, none⟩ = some (.bool neg)
  abs : w.cell? ⟨p, 1, none⟩ = some (.slice ga K c)
  free : ∀ j, w.frozen? ⟨p, j, none⟩ = false

theorem IsInt.below {w w' : World} {p B K c : Nat} {neg : Bool} {ga : Option Addr} (h : IsInt w p neg ga K c) (hb : Below B w w') (hp : p < B) : IsInt w' p neg ga K c :=
  ⟨Nat.lt_of_lt_of_le h.lt hb.size, (hb.cell (p := ⟨p, 0, none⟩) hp).trans h.sgn, (hb.cell (p := ⟨p, 1, none⟩) hp).trans h.abs, fun j => (hb.frozen (p := ⟨p, j, none⟩) hp).trans (h.free j)⟩

set_option maxRecDepth 100000 in
set_option maxHeartbeats 400000 in
theorem BitLen_nil (p c : Nat) (neg : Bool) (ga : Option Addr) (w : World) (h : IsInt w p neg ga 0 c) : Calls Try.prog 23 #[.pointer (some ⟨p, 0, none⟩)] w (fun e w' => e = .returned (.int .i64 0) ∧ w' = w) := by
  have s1 := h.abs
  go_enter Try.func23, Try.ntmps23
  go_wp2_with fail
  refine (bitLen_nil _ _ _).mono ?_
  rintro e w' ⟨rfl, hw⟩
  obtain rfl := hw.symm
  go_wp2
  go_ret
  exact ⟨rfl, rfl⟩

set_option maxRecDepth 100000 in
set_option maxHeartbeats 400000 in
theorem BitLen_some (p g K c x : Nat) (neg : Bool) (w : World) (h : IsInt w p neg (some ⟨g, 0, none⟩) K c) (hK : 0 < K) (hK2 : (K : Int) ≤ 1048576) (hc : w.cell? ⟨g, K - 1, none⟩ = some (.int .u64 (x : Int))) (hx : x < 18446744073709551616) (hx0 : x ≠ 0) :
    Calls Try.prog 23 #[.pointer (some ⟨p, 0, none⟩)] w (fun e w' => e = .returned (.int .i64 ((64 * (K - 1) + Lib.bitLen x : Nat) : Int)) ∧ w' = w) := by
  have s1 := h.abs
  go_enter Try.func23, Try.ntmps23
  go_wp2_with fail
  refine (bitLen_some g K c x w hK hK2 hc hx hx0).mono ?_
  rintro e w' ⟨rfl, hw⟩
  obtain rfl := hw.symm
  go_wp2
  go_ret
  exact ⟨rfl, rfl⟩

/-- What Sign answers. -/
def sgnOf (neg : Bool) (K : Nat) : Int := if K = 0 then 0 else if neg then -1 else 1

set_option maxRecDepth 100000 in
set_option maxHeartbeats 400000 in
theorem Sign_any (p K c : Nat) (neg : Bool) (ga : Option Addr) (w : World) (h : IsInt w p neg ga K c) (hK2 : (K : Int) ≤ 1048576) : Calls Try.prog 24 #[.pointer (some ⟨p, 0, none⟩)] w (fun e w' => e = .returned (.int .i64 (sgnOf neg K)) ∧ w' = w) := by
  have s0 := h.sgn
  have s1 := h.abs
  rcases Nat.eq_zero_or_pos K with rfl | hp
  · go_enter Try.func24, Try.ntmps24
    go_wp2
    go_ret
    exact ⟨rfl, rfl⟩
  · have hz : ((K : Int) == 0) = false := by simp; omega
    have hsg : sgnOf neg K = if neg then -1 else 1 := if_neg (by omega)
    have HS := Hid.mk hsg
    clear hsg
    rcases neg with _ | _
    · go_enter Try.func24, Try.ntmps24
      go_wp2
      go_ret
      exact ⟨by rw [HS.out]; rfl, rfl⟩
    · go_enter Try.func24, Try.ntmps24
      go_wp2
      go_ret
      exact ⟨by rw [HS.out]; rfl, rfl⟩

end Go.Proofs.Qxb6604761a
