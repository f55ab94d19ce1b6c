/-
  DERIVED. zzUvarint: the varint of a number, byte by byte.
-/
import Derived.Test.Qxb6604761aB
import Derived.Lib.Varint
import Derived.Lib.VarintMem
import Derived.Lib.VarintBits
namespace Go.Proofs.Qxb6604761a
open Go.RowKit
set_option linter.unusedVariables false

/-- Byte i of u's varint. -/
def vb (u i : Nat) : Nat := u / 128 ^ i % 128 + (if u / 128 ^ (i + 1) = 0 then 0 else 128)
/-- How many bytes it has. -/
def vlen (u : Nat) : Nat := (Lib.uvarint u).length

theorem pow_one128 (u i : Nat) : u / 128 / 128 ^ i = u / 128 ^ (i + 1) := by rw [Nat.div_div_eq_div_mul, Nat.pow_succ, Nat.mul_comm]

theorem vlen_lt : ∀ (n u : Nat), n + 1 < vlen u ↔ u / 128 ^ (n + 1) ≠ 0
  | 0, u => by
    unfold vlen
    by_cases h : u < 128
    · rw [Lib.uvarint_small h]
      have : u / 128 ^ (0 + 1) = 0 := by simp; omega
      simp [this]
    · rw [Lib.uvarint_big (by omega)]
      have h1 : u / 128 ^ (0 + 1) ≠ 0 := by simp; omega
      have h2 := Lib.uvarint_pos (u / 128)
      simp only [List.length_cons]
      constructor
      · intro _; exact h1
      · intro _; omega
  | n + 1, u => by
    by_cases h : u < 128
    · have h0 : u / 128 ^ (n + 1 + 1) = 0 := by
        rw [← pow_one128, Nat.div_eq_of_lt h]; simp
      unfold vlen
      rw [Lib.uvarint_small h]
      simp [h0]
    · have ih := vlen_lt n (u / 128)
      unfold vlen at ih ⊢
      rw [Lib.uvarint_big (by omega)]
      rw [← pow_one128, ← ih]
      simp

theorem vb_get : ∀ (i u : Nat), i < vlen u → ∃ h : i < (Lib.uvarint u).length, ((Lib.uvarint u)[i]).toNat = vb u i
  | 0, u, _ => by
    refine ⟨Lib.uvarint_pos u, ?_⟩
    by_cases h : u < 128
    · have h0 : u / 128 ^ (0 + 1) = 0 := by simp; omega
      simp only [Lib.uvarint_small h, List.getElem_cons_zero, vb, h0, if_true, Nat.pow_zero, Nat.div_one, Nat.add_zero]
      rw [Lib.toUInt8_toNat (by omega)]
      omega
    · have h0 : u / 128 ^ (0 + 1) ≠ 0 := by simp; omega
      simp only [Lib.uvarint_big (show 128 ≤ u by omega), List.getElem_cons_zero, vb, h0, if_false, Nat.pow_zero, Nat.div_one]
      rw [Lib.toUInt8_toNat (by omega)]
  | i + 1, u, hi => by
    have hu : 128 ≤ u := by
      by_cases h : u < 128
      · unfold vlen at hi
        rw [Lib.uvarint_small h] at hi
        simp at hi
      · omega
    have hi' : i < vlen (u / 128) := by
      unfold vlen at hi ⊢
      rw [Lib.uvarint_big hu] at hi
      simpa using hi
    obtain ⟨h1, h2⟩ := vb_get i (u / 128) hi'
    refine ⟨hi, ?_⟩
    simp only [Lib.uvarint_big hu, List.getElem_cons_succ]
    rw [h2]
    simp only [vb, pow_one128]

theorem vlen_pos (u : Nat) : 1 ≤ vlen u := Lib.uvarint_pos u
theorem vb_lt (u i : Nat) : vb u i < 256 := by unfold vb; split <;> omega

/-- u shifted right by 7 n bits. -/
def q7 (u n : Nat) : Nat := u / 128 ^ n
theorem q7_zero (u : Nat) : q7 u 0 = u := by simp [q7]
theorem q7_one (u : Nat) : ((q7 u 1 : Nat) : Int) = (u : Int) / 128 := by simp [q7]
theorem q7_succ (u n : Nat) : q7 u (n + 1) = q7 u n / 128 := by simp [q7, Nat.pow_succ, Nat.div_div_eq_div_mul]
theorem q7_le (u n : Nat) : q7 u n ≤ u := Nat.div_le_self _ _
theorem q7_lt (u n : Nat) (hn : 1 ≤ n) : n < vlen u ↔ q7 u n ≠ 0 := by
  obtain ⟨m, rfl⟩ : ∃ m, n = m + 1 := ⟨n - 1, by omega⟩
  exact vlen_lt m u
theorem int_val {k : IntKind} {a b : Int} (h : a = b) : Value.int k a = Value.int k b := by rw [h]

theorem shift7 (u k : Nat) : (u : Int) / 2 ^ (7 * k) = ((q7 u k : Nat) : Int) := by
  rw [Int.pow_mul]
  simp [q7]
theorem and127 {x : Int} (h0 : 0 ≤ x) (h1 : x < 18446744073709551616) : bits .and .u64 x 127 = x % 128 := bits_mask .u64 64 (by decide) wraps_u64 7 (by decide) x h0 h1
theorem val_last (u k : Nat) (hu : (u : Int) ≤ 9223372036854775807) (hk : ¬ k + 1 < vlen u) : bits .and .u64 ((u : Int) / 2 ^ (7 * k)) 127 % 256 = ((vb u k : Nat) : Int) := by
  have hq := q7_le u k
  rw [shift7, and127 (by omega) (by omega)]
  have h0 : u / 128 ^ (k + 1) = 0 := by
    exact Decidable.byContradiction fun h => hk ((vlen_lt k u).2 h)
  unfold vb
  rw [if_pos h0]
  show _ = ((q7 u k % 128 + 0 : Nat) : Int)
  omega
theorem val_more (u k : Nat) (hu : (u : Int) ≤ 9223372036854775807) (hk : k + 1 < vlen u) : bits .or .u8 (bits .and .u64 ((u : Int) / 2 ^ (7 * k)) 127 % 256) 128 = ((vb u k : Nat) : Int) := by
  have hq := q7_le u k
  rw [shift7, and127 (by omega) (by omega), Lib.u8_or128_any _ (by omega) (by omega)]
  have h0 : u / 128 ^ (k + 1) ≠ 0 := (vlen_lt k u).1 hk
  unfold vb
  rw [if_neg h0]
  show _ = ((q7 u k % 128 + 128 : Nat) : Int)
  omega

set_option maxRecDepth 100000 in
set_option maxHeartbeats 1000000 in
theorem uvarint_any (u : Nat) (w : World) (hu : u < 9223372036854775808) : Calls Try.prog 15 #[.int .u64 u] w (NewSaid (vlen u) (vb u) w) := by
  obtain ⟨i0, hi, hz0, hz1, hz2⟩ := info_parts Try.info5
  have hlen : vlen u ≤ 10 := Lib.uvarint_length64 (by omega)
  have hu' : (u : Int) ≤ 9223372036854775807 := by omega
  clear hu
  go_enter Try.func15, Try.ntmps15
  go_wp2_with fail
  go_loop [3, 4] (fun nn vv => ∃ n : Nat, 1 ≤ n ∧ n ≤ vlen u ∧ nn = .int .i64 n ∧ vv = .int .u64 ((q7 u n : Nat) : Int)) (fun nn _ => 11 - (intOf nn).toNat)
  case atStart => exact ⟨1, by omega, vlen_pos u, rfl, int_val (q7_one u).symm⟩
  case round =>
    obtain ⟨n, hn1, hn2, rfl, rfl⟩ := hrel
    have hq := q7_le u n
    by_cases hlt : n < vlen u
    · have hne : (((q7 u n : Nat) : Int) != 0) = true := by have := (q7_lt u n hn1).1 hlt; simp; omega
      go_wp2
      go_round
      case rel => exact ⟨n + 1, by omega, by omega, by go_num, int_val (by rw [q7_succ]; omega)⟩
      case measure => simp [intOf]; omega
    · have hne : (((q7 u n : Nat) : Int) != 0) = false := by
        have : ¬ (q7 u n ≠ 0) := fun h => hlt ((q7_lt u n hn1).2 h)
        simp; omega
      obtain rfl : n = vlen u := by omega
      go_wp2_with (at_make; refine wpList_make_full _ rfl _ _ 22 rfl w.heap.size 5 i0 _ 1 Try.underlying22 hi hz0 hz1 .i64 .i64 _ _ (vlen u) rfl rfl (by omega) (by omega) (by rw [hz2]; omega) (by unfold maxLen; omega) (Nat.le_refl _) ?_; intro w1 hown hgrow)
      have ht1 := made_row hown
      rw [Nat.mul_one] at ht1
      have hs1 : w.heap.size < w1.heap.size := (hown.lt _ rfl).2
      have hb1 : Below w.heap.size w w1 := (Below.refl _ _).grown hgrow (Nat.le_refl _) (fun k hk => by cases hk)
      clear hown hgrow
      go_loopw [6] (fun i wr => ∃ k : Nat, k ≤ vlen u ∧ i = .int .i64 k ∧ Row wr w.heap.size k (vb u) ∧ There wr w.heap.size (vlen u) ∧ w.heap.size < wr.heap.size ∧ Below w.heap.size w wr) (fun i _ => vlen u - (intOf i).toNat)
      case atStart => exact ⟨0, Nat.zero_le _, rfl, Row.zero _ _ _, ht1, hs1, hb1⟩
      case round =>
        clear ht1 hb1 hs1
        obtain ⟨k, hk, rfl, hdone, hth, hs, hbel⟩ := hrel
        by_cases hlt : k < vlen u
        · obtain ⟨u0, hu0⟩ := hth.cell k hlt
          have hfz := hth.free
          have hk9 : k ≤ 9 := by omega
          by_cases hlast : k + 1 < vlen u
          · have HV := Hid.mk (val_more u k hu' hlast)
            go_wp2
            go_roundw
            case rel =>
              rw [HV.out]
              exact ⟨k + 1, by omega, by go_num, hdone.step hth hlt, hth.setCell _ _, by simpa using hs, hbel.setCell (Nat.le_refl _) _⟩
            case measure => simp [intOf]; omega
          · have HV := Hid.mk (val_last u k hu' hlast)
            have hI : ¬ (k : Int) < (vlen u : Int) - 1 := by omega
            go_wp2
            go_roundw
            case rel =>
              rw [HV.out]
              exact ⟨k + 1, by omega, by go_num, hdone.step hth hlt, hth.setCell _ _, by simpa using hs, hbel.setCell (Nat.le_refl _) _⟩
            case measure => simp [intOf]; omega
        · obtain rfl : k = vlen u := by omega
          go_wp2
          go_ret
          exact ⟨rfl, hdone, hth, hs, hbel⟩

end Go.Proofs.Qxb6604761a
