/-
  DERIVED. readDecimal: a numeral read back.
-/
import Derived.Test.Qxb6602681aDoorA
import Derived.Deep.DeepCutAuto
namespace Go.Proofs.Qxb6602681aDoor
open Go.RowKit
set_option linter.unusedVariables false

/-- The first k of D digits of u, as a number. -/
def pre10 (u D k : Nat) : Nat := u / 10 ^ (D - k)
/-- Digit k. -/
def dig (u D k : Nat) : Nat := u / 10 ^ (D - 1 - k) % 10
theorem dig_lt (u D k : Nat) : dig u D k < 10 := Nat.mod_lt _ (by omega)
theorem pre10_succ (u D k : Nat) (hk : k < D) : pre10 u D (k + 1) = pre10 u D k * 10 + dig u D k := by
  unfold pre10 dig
  obtain ⟨m, hm⟩ : ∃ m, D - k = m + 1 := ⟨D - k - 1, by omega⟩
  rw [show D - (k + 1) = m by omega, show D - 1 - k = m by omega, hm, Nat.pow_succ, ← Nat.div_div_eq_div_mul]
  omega
theorem pre10_zero (u D : Nat) (h : u < 10 ^ D) : pre10 u D 0 = 0 := Nat.div_eq_of_lt h
theorem pre10_all (u D : Nat) : pre10 u D D = u := by simp [pre10]
theorem pre10_le (u D k : Nat) (hk : k < D) : pre10 u D k * 10 + dig u D k ≤ u := by
  rw [← pre10_succ u D k hk]
  exact Nat.div_le_self _ _

/-- u's D digits stand in s from a on; behind them ends the string, or stands no digit. -/
structure Num (s : ByteArray) (a u D : Nat) : Prop where
  pos : 0 < D
  lt : u < 10 ^ D
  le : a + D ≤ s.size
  dig : ∀ t (h : a + t < s.size), t < D → (s[a + t]'h).toNat = 48 + dig u D t
  stop : ∀ (h : a + D < s.size), (s[a + D]'h).toNat < 48

/-- WHAT readDecimal IS GOOD FOR. -/
def ReadSaid (v : Int) (p : Nat) (w : World) (e : Ending) (w' : World) : Prop := e = .returned (.tuple #[.int .i64 v, .int .i64 ((p : Nat) : Int), .bool true]) ∧ w' = w

set_option maxRecDepth 100000 in
set_option maxHeartbeats 2000000 in
theorem read_any (s : ByteArray) (o a u D : Nat) (neg : Bool) (v : Int) (w : World) (hs : s.size ≤ 1048576) (hN : Num s a u D) (ho : o < s.size) (hneg : if neg then a = o + 1 ∧ (s[o]'ho).toNat = 45 else a = o) (hv : v = if neg then -(u : Int) else (u : Int)) (hv0 : -9223372036854775808 ≤ v) (hv1 : v ≤ 9223372036854775807) :
    Calls Tryd.prog 10 #[.string s, .int .i64 o] w (ReadSaid v (a + D) w) := by
  have i1 : (o : Int) < (s.size : Int) := by omega
  have i0 : (0 : Int) ≤ (o : Int) := by omega
  have hle := hN.le
  have hpos := hN.pos
  have HN := Hid.mk hN
  have HV := Hid.mk hv
  clear hN hv
  go_enter Tryd.func10, Tryd.ntmps10
  go_upto_region 2 with fail
  go_cut [20] (fun b w' => b = .bool neg ∧ w' = w)
  case first =>
    rcases neg with _ | _
    · have e0 : a = o := by simpa using hneg
      subst e0
      have hc := HN.out.dig 0 (by omega) hpos
      have hd := dig_lt u D 0
      have hc0 : (s[a]'ho).toNat = 48 + dig u D 0 := by simpa using hc
      have hne2 : ((48 : Int) + ((dig u D 0 : Nat) : Int) == 45) = false := by simp; omega
      clear hc
      go_wp2
      go_meet
      case rel => exact ⟨rfl, rfl⟩
    · obtain ⟨e0, hc⟩ : a = o + 1 ∧ (s[o]'ho).toNat = 45 := by simpa using hneg
      clear e0
      go_wp2
      go_meet
      case rel => exact ⟨rfl, rfl⟩
  case rest =>
    obtain ⟨rfl, hw⟩ := hcut
    obtain rfl := hw.symm
    clear hw
    go_upto_if 20 with fail
    go_cut [1, 7] (fun p b w' => p = .int .i64 (a : Int) ∧ b = .bool neg ∧ w' = w)
    case first =>
      rcases neg with _ | _
      · have e0 : a = o := by simpa using hneg
        go_wp2
        go_meet
        case rel => exact ⟨int_val (by omega), rfl, rfl⟩
      · obtain ⟨e0, hc⟩ : a = o + 1 ∧ (s[o]'ho).toNat = 45 := by simpa using hneg
        clear hc
        go_wp2
        go_meet
        case rel => exact ⟨int_val (by omega), rfl, rfl⟩
    case rest =>
      obtain ⟨rfl, rfl, hw⟩ := hcut
      obtain rfl := hw.symm
      clear hw hneg
      have hu : (u : Int) ≤ 9223372036854775808 := by
        have := HV.out
        rcases neg with _ | _
        · simp at this; omega
        · simp at this; omega
      go_wp2_with fail
      go_loop [1, 9] (fun p acc => ∃ k q : Nat, k ≤ D ∧ q ≤ a + k ∧ a + k ≤ q ∧ p = .int .i64 (q : Int) ∧ acc = .int .i64 (-((pre10 u D k : Nat) : Int))) (fun p _ => s.size - (intOf p).toNat)
      case atStart => exact ⟨0, a, by omega, by omega, by omega, rfl, int_val (by rw [pre10_zero u D HN.out.lt]; rfl)⟩
      case round =>
        obtain ⟨k, q, hk, hq1, hq2, rfl, rfl⟩ := hrel
        obtain rfl : q = a + k := by omega
        by_cases hlt : k < D
        · have hin : a + k < s.size := by omega
          have hc := HN.out.dig k hin hlt
          have hP := pre10_le u D k hlt
          have hS := pre10_succ u D k hlt
          have hd := dig_lt u D k
          generalize pre10 u D k = P at *
          generalize dig u D k = d at *
          generalize hq : a + k = q at *
          have HQ := Hid.mk hq
          have HS := Hid.mk hS
          clear hq hS hq1 hq2
          have i2 : (q : Int) < (s.size : Int) := by omega
          have i3 : (0 : Int) ≤ (q : Int) := by omega
          have t1 : (48 : Int) ≤ 48 + (d : Int) := by omega
          have t2 : (48 : Int) + (d : Int) ≤ 57 := by omega
          have t3 : ¬ (-(P : Int) < -922337203685477580) := by omega
          have t4 : ¬ (-(P : Int) * 10 < -9223372036854775808 + (d : Int)) := by omega
          have t5 : (P : Int) * 10 + (d : Int) ≤ 9223372036854775808 := by omega
          clear hP
          go_wp2
          go_round
          case rel => exact ⟨k + 1, q + 1, by omega, by have := HQ.out; omega, by have := HQ.out; omega, by go_num, int_val (by rw [HS.out]; omega)⟩
          case measure => simp [intOf] <;> omega
        · obtain rfl : k = D := by omega
          rw [pre10_all]
          have hst := HN.out.stop
          clear hlt hq1 hq2 hk
          obtain ⟨q, hq⟩ : ∃ q, q = a + k := ⟨_, rfl⟩
          have hqa : ((q : Int) == (a : Int)) = false := by simp; omega
          rw [← hq] at hle hst ⊢
          have HQ := Hid.mk hq
          clear hq
          by_cases hin : q < s.size
          · have hc := hst hin
            have i2 : (q : Int) < (s.size : Int) := by omega
            have i3 : (0 : Int) ≤ (q : Int) := by omega
            generalize hcc : (s[q]'hin).toNat = c at hc
            have t1 : ¬ (48 : Int) ≤ (c : Int) := by omega
            clear hst
            rcases neg with _ | _
            · have hv : v = (u : Int) := by simpa using HV.out
              have t2 : (-(u : Int) == -9223372036854775808) = false := by simp; omega
              clear HV
              go_wp2
              rw [← HQ.out]
              exact bodyPost_ret (v := .tuple #[.int .i64 ((u : Int)), .int .i64 (q : Int), .bool true]) (by simp [results, Tryd.results10, go_sem]) rfl ⟨rfl, rfl⟩
            · have hv : v = -(u : Int) := by simpa using HV.out
              clear HV
              go_wp2
              rw [← HQ.out]
              exact bodyPost_ret (v := .tuple #[.int .i64 (-(u : Int)), .int .i64 (q : Int), .bool true]) (by simp [results, Tryd.results10, go_sem]) rfl ⟨rfl, rfl⟩
          · have i2 : ¬ (q : Int) < (s.size : Int) := by omega
            clear hst
            rcases neg with _ | _
            · have hv : v = (u : Int) := by simpa using HV.out
              have t2 : (-(u : Int) == -9223372036854775808) = false := by simp; omega
              clear HV
              go_wp2
              rw [← HQ.out]
              exact bodyPost_ret (v := .tuple #[.int .i64 ((u : Int)), .int .i64 (q : Int), .bool true]) (by simp [results, Tryd.results10, go_sem]) rfl ⟨rfl, rfl⟩
            · have hv : v = -(u : Int) := by simpa using HV.out
              clear HV
              go_wp2
              rw [← HQ.out]
              exact bodyPost_ret (v := .tuple #[.int .i64 (-(u : Int)), .int .i64 (q : Int), .bool true]) (by simp [results, Tryd.results10, go_sem]) rfl ⟨rfl, rfl⟩

end Go.Proofs.Qxb6602681aDoor
