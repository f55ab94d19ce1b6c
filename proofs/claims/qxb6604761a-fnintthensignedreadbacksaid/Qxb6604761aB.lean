/-
  DERIVED. zzTrim, zzConcat.
-/
import Derived.Test.Qxb6604761aA
namespace Go.Proofs.Qxb6604761a
open Go.RowKit
set_option linter.unusedVariables false

set_option maxRecDepth 100000 in
set_option maxHeartbeats 1000000 in
theorem trim_any (a : Option Addr) (n cap t : Nat) (f : Nat → Nat) (w : World) (hg : B8 w a n f) (hn : (n : Int) ≤ 1048576) (ht : t ≤ n) (hz : ∀ i, i < t → f i = 0) (hnz : t < n → f t ≠ 0) :
    Calls Try.prog 13 #[.slice a n cap] w (NewSaid (n - t) (fun j => f (t + j)) w) := by
  obtain ⟨i0, hi, hz0, hz1, hz2⟩ := info_parts Try.info5
  have HZ := Hid.mk hz
  have HNZ := Hid.mk hnz
  clear hz hnz
  go_enter Try.func13, Try.ntmps13
  go_wp2_with fail
  go_loop [3] (fun i => ∃ k : Nat, k ≤ t ∧ i = .int .i64 k) (fun i => t - (intOf i).toNat)
  case atStart => exact ⟨0, Nat.zero_le _, rfl⟩
  case round =>
    obtain ⟨k, hk, rfl⟩ := hrel
    by_cases hlt : k < t
    · rcases hg with hg | ⟨b, off, rfl, hb, hc⟩
      · exfalso; omega
      have s0 := hc k (by omega)
      rw [HZ.out k hlt] at s0
      have hkn : (k : Int) < (n : Int) := by omega
      clear hc
      go_wp2
      go_round
      case rel => exact ⟨k + 1, by omega, by go_num⟩
      case measure => simp [intOf]; omega
    · obtain rfl : k = t := by omega
      have hcell : k < n → ∃ b off, a = some ⟨b, off, none⟩ ∧ b < w.heap.size ∧ w.cell? ⟨b, off + k, none⟩ = some (.int .u8 ((f k : Nat) : Int)) ∧ (((f k : Nat) : Int) == 0) = false := by
        intro h
        rcases hg with hg | ⟨b, off, hx, hb, hc⟩
        · omega
        · exact ⟨b, off, hx, hb, hc k h, by have := HNZ.out h; simp; omega⟩
      by_cases hkn : k < n
      · obtain ⟨b, off, rfl, hb, s0, hne⟩ := hcell hkn
        clear hcell
        have hkn' : (k : Int) < (n : Int) := by omega
        go_wp2_with (at_make; refine wpList_make_full _ rfl _ _ 22 rfl w.heap.size 5 i0 _ 1 Try.underlying22 hi hz0 hz1 .i64 .i64 _ _ (n - k) rfl rfl (by omega) (by omega) (by rw [hz2]; omega) (by unfold maxLen; omega) (Nat.le_refl _) ?_; intro w1 hown hgrow)
        have ht1 := made_row hown
        rw [Nat.mul_one] at ht1
        have hs1 : w.heap.size < w1.heap.size := (hown.lt _ rfl).2
        have hb1 : Below w.heap.size w w1 := (Below.refl _ _).grown hgrow (Nat.le_refl _) (fun k hk => by cases hk)
        clear hown hgrow
        go_loopw [5] (fun i wr => ∃ q : Nat, q ≤ n - k ∧ i = .int .i64 q ∧ Row wr w.heap.size q (fun j => f (k + j)) ∧ There wr w.heap.size (n - k) ∧ w.heap.size < wr.heap.size ∧ Below w.heap.size w wr) (fun i _ => (n - k) - (intOf i).toNat)
        case atStart => exact ⟨0, Nat.zero_le _, rfl, Row.zero _ _ _, ht1, hs1, hb1⟩
        case round =>
          clear ht1 hb1 hs1 s0
          obtain ⟨q, hq, rfl, hdone, hth, hs, hbel⟩ := hrel
          by_cases hlt2 : q < n - k
          · rcases hg with hg | ⟨b', off', hx, hb', hc⟩
            · exfalso; omega
            cases hx
            obtain ⟨u0, hu0⟩ := hth.cell q hlt2
            have hfz := hth.free
            have s1 := hc (k + q) (by omega)
            rw [← hbel.cell (p := ⟨b, off + (k + q), none⟩) hb] at s1
            have hI : (q : Int) < ((n - k : Nat) : Int) := by omega
            clear hc
            go_wp2
            go_roundw
            case rel => exact ⟨q + 1, by omega, by go_num, hdone.step hth hlt2, hth.setCell _ _, by simpa using hs, hbel.setCell (Nat.le_refl _) _⟩
            case measure => simp [intOf]; omega
          · have hI : ¬ (q : Int) < ((n - k : Nat) : Int) := by omega
            go_wp2
            go_ret
            obtain rfl : q = n - k := by omega
            exact ⟨rfl, hdone, hth, hs, hbel⟩
      · have hkn' : ¬ (k : Int) < (n : Int) := by omega
        have hknd : decide ((k : Int) < (n : Int)) = false := by simpa using hkn'
        clear hcell
        go_wp2_with (at_make; refine wpList_make_full _ rfl _ _ 22 rfl w.heap.size 5 i0 _ 1 Try.underlying22 hi hz0 hz1 .i64 .i64 _ _ (n - k) rfl rfl (by omega) (by omega) (by rw [hz2]; omega) (by unfold maxLen; omega) (Nat.le_refl _) ?_; intro w1 hown hgrow)
        have ht1 := made_row hown
        rw [Nat.mul_one] at ht1
        have hs1 : w.heap.size < w1.heap.size := (hown.lt _ rfl).2
        have hb1 : Below w.heap.size w w1 := (Below.refl _ _).grown hgrow (Nat.le_refl _) (fun k hk => by cases hk)
        clear hown hgrow
        have hz0' : n - k = 0 := by omega
        have HZ0 := Hid.mk hz0'
        rw [hz0'] at ht1 ⊢
        clear hz0'
        go_loopw [5] (fun i wr => i = .int .i64 0 ∧ wr = w1) (fun i _ => 0)
        case atStart => exact ⟨rfl, rfl⟩
        case round =>
          obtain ⟨rfl, rfl⟩ := hrel
          go_wp2
          go_ret
          refine ⟨by rw [HZ0.out]; rfl, by rw [HZ0.out]; exact Row.zero _ _ _, by rw [HZ0.out]; exact ht1, hs1, hb1⟩

set_option maxRecDepth 100000 in
set_option maxHeartbeats 1000000 in
theorem concat_any (a0 a1 : Option Addr) (n0 c0 n1 c1 : Nat) (f g : Nat → Nat) (w : World) (h0 : B8 w a0 n0 f) (h1 : B8 w a1 n1 g) (hn0 : (n0 : Int) ≤ 1048576) (hn1 : (n1 : Int) ≤ 1048576) :
    Calls Try.prog 14 #[.slice a0 n0 c0, .slice a1 n1 c1] w (NewSaid (n0 + n1) (fun j => if j < n0 then f j else g (j - n0)) w) := by
  obtain ⟨i0, hi, hz0, hz1, hz2⟩ := info_parts Try.info5
  go_enter Try.func14, Try.ntmps14
  go_wp2_with (at_make; refine wpList_make_full _ rfl _ _ 22 rfl w.heap.size 5 i0 _ 1 Try.underlying22 hi hz0 hz1 .i64 .i64 _ _ (n0 + n1) rfl rfl (by omega) (by omega) (by rw [hz2]; omega) (by unfold maxLen; omega) (Nat.le_refl _) ?_; intro w1 hown hgrow)
  have ht1 := made_row hown
  rw [Nat.mul_one] at ht1
  have hs1 : w.heap.size < w1.heap.size := (hown.lt _ rfl).2
  have hb1 : Below w.heap.size w w1 := (Below.refl _ _).grown hgrow (Nat.le_refl _) (fun k hk => by cases hk)
  clear hown hgrow
  go_loopw [6] (fun i wr => ∃ q : Nat, q ≤ n0 ∧ i = .int .i64 q ∧ Row wr w.heap.size q f ∧ There wr w.heap.size (n0 + n1) ∧ w.heap.size < wr.heap.size ∧ Below w.heap.size w wr) (fun i _ => n0 - (intOf i).toNat)
  case atStart => exact ⟨0, Nat.zero_le _, rfl, Row.zero _ _ _, ht1, hs1, hb1⟩
  case round =>
    clear ht1 hb1 hs1
    obtain ⟨q, hq, rfl, hdone, hth, hs, hbel⟩ := hrel
    by_cases hlt2 : q < n0
    · rcases h0 with h0 | ⟨b, off, rfl, hb, hc⟩
      · exfalso; omega
      obtain ⟨u0, hu0⟩ := hth.cell q (by omega)
      have hfz := hth.free
      have s1 := hc q hlt2
      rw [← hbel.cell (p := ⟨b, off + q, none⟩) hb] at s1
      clear hc
      go_wp2
      go_roundw
      case rel => exact ⟨q + 1, by omega, by go_num, hdone.step hth (by omega), hth.setCell _ _, by simpa using hs, hbel.setCell (Nat.le_refl _) _⟩
      case measure => simp [intOf]; omega
    · obtain rfl : q = n0 := by omega
      have hrow : Row wr w.heap.size q (fun j => if j < q then f j else g (j - q)) := fun j hj => by rw [hdone j hj]; simp [hj]
      go_wp2_with fail
      go_loopw [7] (fun i wt => ∃ r : Nat, r ≤ n1 ∧ i = .int .i64 r ∧ Row wt w.heap.size (q + r) (fun j => if j < q then f j else g (j - q)) ∧ There wt w.heap.size (q + n1) ∧ w.heap.size < wt.heap.size ∧ Below w.heap.size w wt) (fun i _ => n1 - (intOf i).toNat)
      case atStart => exact ⟨0, Nat.zero_le _, rfl, hrow, hth, hs, hbel⟩
      case round =>
        clear hrow hth hs hbel hdone
        obtain ⟨r, hr, rfl, hrow, hth, hs, hbel⟩ := hrel
        by_cases hlt3 : r < n1
        · rcases h1 with h1 | ⟨b, off, rfl, hb, hc⟩
          · exfalso; omega
          obtain ⟨u0, hu0⟩ := hth.cell (q + r) (by omega)
          have hfz := hth.free
          have s1 := hc r hlt3
          rw [← hbel.cell (p := ⟨b, off + r, none⟩) hb] at s1
          clear hc
          go_wp2
          go_roundw
          case rel =>
            have R := hrow.step hth (k := q + r) (by omega)
            simp only [show ¬ (q + r < q) by omega, if_false, show q + r - q = r by omega] at R
            exact ⟨r + 1, by omega, by go_num, R, hth.setCell _ _, by simpa using hs, hbel.setCell (Nat.le_refl _) _⟩
          case measure => simp [intOf]; omega
        · obtain rfl : r = n1 := by omega
          go_wp2
          go_ret
          exact ⟨rfl, hrow, hth, hs, hbel⟩

end Go.Proofs.Qxb6604761a
