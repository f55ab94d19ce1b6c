/-
  DERIVED. zzPrefixOf, zzReadUvarint, zzUnzig.
-/
import Derived.Test.Qxb6604761aQ
namespace Go.Proofs.Qxb6604761a
open Go.RowKit
set_option linter.unusedVariables false

set_option maxRecDepth 100000 in
set_option maxHeartbeats 1000000 in
theorem prefix_true (a0 a1 : Option Addr) (n c0 m c1 : Nat) (f g : Nat → Nat) (w : World) (h0 : B8 w a0 n f) (h1 : B8 w a1 m g) (hm : (m : Int) ≤ 4194304) (hnm : n ≤ m) (hfg : ∀ i, i < n → f i = g i) :
    Calls Try.prog 9 #[.slice a0 n c0, .slice a1 m c1] w (fun e w' => e = .returned (.bool true) ∧ Below w.heap.size w w') := by
  have HF := Hid.mk hfg
  clear hfg
  have hgt : ¬ (m : Int) < (n : Int) := by omega
  go_enter Try.func9, Try.ntmps9
  go_wp2_with fail
  go_loopw [5] (fun i wr => ∃ k : Nat, k ≤ n ∧ i = .int .i64 k ∧ Below w.heap.size w wr) (fun i _ => n - (intOf i).toNat)
  case atStart => exact ⟨0, Nat.zero_le _, rfl, Below.refl _ _⟩
  case round =>
    obtain ⟨k, hk, rfl, hbel⟩ := hrel
    by_cases hlt : k < n
    · rcases h0 with h0 | ⟨b0, o0, rfl, hb0, hc0⟩
      · exfalso; omega
      rcases h1 with h1 | ⟨b1, o1, rfl, hb1, hc1⟩
      · exfalso; omega
      have s0 := (hbel.cell (p := ⟨b0, o0 + k, none⟩) hb0).trans (hc0 k hlt)
      have s1 := (hbel.cell (p := ⟨b1, o1 + k, none⟩) hb1).trans (hc1 k (by omega))
      rw [← HF.out k hlt] at s1
      have k1 : (0 : Int) ≤ (k : Int) := by omega
      have k2 : (k : Int) < (n : Int) := by omega
      have k3 : (k : Int) < (m : Int) := by omega
      clear hc0 hc1
      go_wp2_with fail
      go_quiet (fail)
      go_wp2
      go_roundw
      case rel => first | exact ⟨k + 1, by omega, by go_num, below_drewN hbel _⟩ | ((repeat apply Exists.intro); exact ⟨⟨k + 1, by omega, by go_num, below_drewN hbel _⟩, rfl⟩)
      case measure => simp [intOf]; omega
    · obtain rfl : k = n := by omega
      go_wp2
      go_ret
      exact ⟨rfl, hbel⟩

/-! ### unzig -/
theorem zz_even {v : Int} (h : 0 ≤ v) : Lib.zigzag v / 2 = v.toNat ∧ Lib.zigzag v % 2 = 0 := by
  unfold Lib.zigzag; rw [if_pos h]; omega
theorem zz_odd {v : Int} (h : v < 0) : Lib.zigzag v / 2 = (-v - 1).toNat ∧ Lib.zigzag v % 2 = 1 := by
  unfold Lib.zigzag; rw [if_neg (by omega)]; omega
theorem xor_zero (x : Nat) (hx : x < 9223372036854775808) : bits .xor .i64 (x : Int) 0 = (x : Int) := by
  show IntKind.i64.wrap ((BitVec.ofInt 64 (x : Int) ^^^ BitVec.ofInt 64 0).toNat : Int) = _
  have h2 : (BitVec.ofInt 64 (x : Int)).toNat = x := by
    rw [BitVec.ofInt_natCast, BitVec.toNat_ofNat]; exact Nat.mod_eq_of_lt (by omega)
  have h1 : (BitVec.ofInt 64 0).toNat = 0 := by decide
  rw [BitVec.toNat_xor, h1, h2, Nat.xor_zero, IntKind.wrap_i64]
  omega
theorem xor_ones (x : Nat) (hx : x < 9223372036854775808) : bits .xor .i64 (x : Int) (-1) = -(x : Int) - 1 := by
  rw [← Lib.i64_not x hx]
  show IntKind.i64.wrap ((BitVec.ofInt 64 (x : Int) ^^^ BitVec.ofInt 64 (-1)).toNat : Int) = IntKind.i64.wrap ((BitVec.ofInt 64 (-1) ^^^ BitVec.ofInt 64 (x : Int)).toNat : Int)
  rw [BitVec.xor_comm]

set_option maxRecDepth 100000 in
set_option maxHeartbeats 1000000 in
theorem unzig_any (v : Int) (w : World) (h0 : -9223372036854775808 ≤ v) (h1 : v ≤ 9223372036854775807) :
    Calls Try.prog 11 #[.int .u64 ((Lib.zigzag v : Nat) : Int)] w (fun e w' => e = .returned (.int .i64 v) ∧ w' = w) := by
  have hlt := Lib.zigzag_lt h0 h1
  have ha := Lib.u64_and1 ((Lib.zigzag v : Nat) : Int) (by omega) (by omega)
  by_cases hv : 0 ≤ v
  · obtain ⟨e1, e2⟩ := zz_even hv
    have ha2 : ((Lib.zigzag v : Nat) : Int) % 2 = 0 := by omega
    have hd : ((Lib.zigzag v : Nat) : Int) / 2 = v := by omega
    have hx := xor_zero v.toNat (by omega)
    rw [Int.toNat_of_nonneg hv] at hx
    generalize Lib.zigzag v = z at *
    clear e1 e2
    go_enter Try.func11, Try.ntmps11
    go_wp2
    go_ret
    exact ⟨rfl, rfl⟩
  · obtain ⟨e1, e2⟩ := zz_odd (show v < 0 by omega)
    have ha2 : ((Lib.zigzag v : Nat) : Int) % 2 = 1 := by omega
    have hd : ((Lib.zigzag v : Nat) : Int) / 2 = -v - 1 := by omega
    have hx := xor_ones (-v - 1).toNat (by omega)
    rw [Int.toNat_of_nonneg (by omega)] at hx
    have hx2 : bits .xor .i64 (-v - 1) (-1) = v := by rw [hx]; omega
    generalize Lib.zigzag v = z at *
    clear e1 e2 hx
    go_enter Try.func11, Try.ntmps11
    go_wp2
    go_ret
    exact ⟨rfl, rfl⟩

/-! ### readUvarint -/
/-- The lowest 7 k bits. -/
def lo7 (u k : Nat) : Nat := u % 128 ^ k
theorem lo7_zero (u : Nat) : lo7 u 0 = 0 := by simp [lo7, Nat.mod_one]
theorem lo7_lt (u k : Nat) : lo7 u k < 128 ^ k := Nat.mod_lt _ (Nat.pow_pos (by omega))
theorem lo7_le (u k : Nat) : lo7 u k ≤ u := Nat.mod_le _ _
theorem lo7_succ (u k : Nat) : lo7 u (k + 1) = lo7 u k + 128 ^ k * (q7 u k % 128) := by
  unfold lo7 q7
  rw [Nat.pow_succ, Nat.mod_mul]
theorem vb_low (u k : Nat) : vb u k % 128 = q7 u k % 128 := by
  unfold vb
  show _ = u / 128 ^ k % 128
  split <;> omega
theorem lo7_all (u k : Nat) (h : ¬ k + 1 < vlen u) : lo7 u (k + 1) = u := by
  have h0 : u / 128 ^ (k + 1) = 0 := Decidable.byContradiction fun h' => h ((vlen_lt k u).2 h')
  have h1 : 0 < 128 ^ (k + 1) := Nat.pow_pos (by omega)
  have h2 := Nat.div_add_mod u (128 ^ (k + 1))
  rw [h0] at h2
  unfold lo7
  omega

/-- 'x |= uint64(c & 127) << s'. -/
theorem lo7_join (u k : Nat) (hu : u < 18446744073709551616) (hk : k < vlen u) : bits .or .u64 ((lo7 u k : Nat) : Int) (IntKind.u64.wrap (((vb u k : Nat) : Int) % 128 * 2 ^ (7 * k))) = ((lo7 u (k + 1) : Nat) : Int) := by
  have e : (2 : Int) ^ (7 * k) = ((128 ^ k : Nat) : Int) := by rw [Int.pow_mul]; simp
  have hs := lo7_succ u k
  have hle := lo7_le u (k + 1)
  have hlt := lo7_lt u k
  have hv : ((vb u k : Nat) : Int) % 128 = ((q7 u k % 128 : Nat) : Int) := by have := vb_low u k; omega
  have e2 : ((vb u k : Nat) : Int) % 128 * 2 ^ (7 * k) = ((128 ^ k * (q7 u k % 128) : Nat) : Int) := by
    rw [hv, e, Nat.mul_comm]; simp
  generalize hP : 128 ^ k * (q7 u k % 128) = P at hs e2
  have c64 : (2 : Int) ^ 64 = 18446744073709551616 := by decide
  have g1 : ((P : Nat) : Int) < 2 ^ 64 := by omega
  have g2 : ((lo7 u k : Nat) : Int) < 2 ^ 64 := by omega
  have g3 : ((P : Nat) : Int) % 2 ^ (7 * k) = 0 := by
    rw [e, ← hP, ← Int.natCast_emod, Nat.mul_mod_right]
    rfl
  have g4 : ((lo7 u k : Nat) : Int) < 2 ^ (7 * k) := by rw [e]; omega
  rw [e2, wraps_u64 _ (by omega) g1, bits_join_low .u64 64 (by decide) wraps_u64 (7 * k) _ ((P : Nat) : Int) (by omega) g4 g2 (by omega) g3 g1]
  omega

/-- WHAT zzReadUvarint IS GOOD FOR. -/
def ReadSaid (u p : Nat) (w : World) (e : Ending) (w' : World) : Prop := e = .returned (.tuple #[.int .u64 ((u : Nat) : Int), .int .i64 ((p : Nat) : Int), .bool true]) ∧ Below w.heap.size w w'

set_option maxRecDepth 100000 in
set_option maxHeartbeats 2000000 in
theorem readUv (g n cap o u : Nat) (F : Nat → Nat) (w : World) (hu : u < 18446744073709551616) (hr : ∀ j, j < vlen u → w.cell? ⟨g, o + j, none⟩ = some (.int .u8 ((vb u j : Nat) : Int))) (hn : n ≤ 1048576) (ho : o + vlen u ≤ n) :
    Calls Try.prog 10 #[.slice (some ⟨g, 0, none⟩) n cap, .int .i64 o] w (ReadSaid u (o + vlen u) w) := by
  have hlen : vlen u ≤ 10 := Lib.uvarint_length64 hu
  have HR := Hid.mk hr
  clear hr
  go_enter Try.func10, Try.ntmps10
  go_wp2_with fail
  go_loopw [7, 8, 9] (fun xv sv iv wr => ∃ k : Nat, k < vlen u ∧ xv = .int .u64 ((lo7 u k : Nat) : Int) ∧ sv = .int .u64 ((7 * k : Nat) : Int) ∧ iv = .int .i64 k ∧ Below w.heap.size w wr) (fun _ _ iv _ => 10 - (intOf iv).toNat)
  case atStart => exact ⟨0, vlen_pos u, int_val (by rw [lo7_zero]; rfl), rfl, rfl, Below.refl _ _⟩
  case round =>
    obtain ⟨k, hk, rfl, rfl, rfl, hbel⟩ := hrel
    have hgl : g < w.heap.size := by
      by_cases hb : g < w.heap.size
      · exact hb
      · exfalso
        have h0 := HR.out k hk
        rw [World.cell?, Array.getElem?_eq_none (by simpa using hb)] at h0
        cases h0
    have s0 := (hbel.cell (p := ⟨g, o + k, none⟩) hgl).trans (HR.out k hk)
    have hk10 : (k : Int) < 10 := by omega
    have i1 : (0 : Int) ≤ (o : Int) + (k : Int) := by omega
    have i2 : (o : Int) + (k : Int) < (n : Int) := by omega
    have i3 : ((o : Int) + (k : Int)).toNat = o + k := by omega
    have hvl := vb_lt u k
    have hand : bits .and .u8 ((vb u k : Nat) : Int) 127 = ((vb u k : Nat) : Int) % 128 := bits_mask .u8 8 (by decide) wraps_u8 7 (by decide) _ (by omega) (by omega)
    have HV := Hid.mk (lo7_join u k hu hk)
    have hlo := lo7_le u k
    have hlo2 := lo7_le u (k + 1)
    by_cases hm : k + 1 < vlen u
    · have hge : ¬ ((vb u k : Nat) : Int) < 128 := by
        have h0 : u / 128 ^ (k + 1) ≠ 0 := (vlen_lt k u).1 hm
        unfold vb
        rw [if_neg h0]
        omega
      have hk9 : ((k : Int) == 9) = false := by simp; omega
      go_wp2
      go_roundw
      case rel => exact ⟨k + 1, hm, int_val (by rw [HV.out]), int_val (by omega), by go_num, hbel⟩
      case measure => simp [intOf] <;> omega
    · have hall := lo7_all u k hm
      have hlt : ((vb u k : Nat) : Int) < 128 := by
        have h0 : u / 128 ^ (k + 1) = 0 := Decidable.byContradiction fun h' => hm ((vlen_lt k u).2 h')
        unfold vb
        rw [if_pos h0]
        omega
      have hvk : k + 1 = vlen u := by omega
      have HVK := Hid.mk hvk
      have HALL := Hid.mk hall
      clear hall hvk
      by_cases hk9 : k = 9
      · have h9 : ((k : Int) == 9) = true := by simp; omega
        have h91 : ¬ (1 : Int) < ((vb u k : Nat) : Int) := by
          subst hk9
          have h0 : u / 128 ^ (9 + 1) = 0 := Decidable.byContradiction fun h' => hm ((vlen_lt 9 u).2 h')
          unfold vb
          rw [if_pos h0]
          simp only [Nat.reducePow]
          omega
        clear hk9
        go_wp2
        have e1 : (o : Int) + (k : Int) + 1 = ((o + vlen u : Nat) : Int) := by have := HVK.out; omega
        rw [HV.out, HALL.out, e1]
        exact bodyPost_ret (v := .tuple #[.int .u64 ((u : Nat) : Int), .int .i64 ((o + vlen u : Nat) : Int), .bool true]) (by simp [results, Try.results10, go_sem]) rfl ⟨rfl, hbel⟩
      · have h9 : ((k : Int) == 9) = false := by simp; omega
        clear hk9
        go_wp2
        have e1 : (o : Int) + (k : Int) + 1 = ((o + vlen u : Nat) : Int) := by have := HVK.out; omega
        rw [HV.out, HALL.out, e1]
        exact bodyPost_ret (v := .tuple #[.int .u64 ((u : Nat) : Int), .int .i64 ((o + vlen u : Nat) : Int), .bool true]) (by simp [results, Try.results10, go_sem]) rfl ⟨rfl, hbel⟩

end Go.Proofs.Qxb6604761a
