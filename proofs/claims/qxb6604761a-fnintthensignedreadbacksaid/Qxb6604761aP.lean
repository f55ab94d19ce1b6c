/-
  DERIVED. The law FnIntAppendsSizeSignMagnitude: the walk.
-/
import Derived.Test.Qxb6604761aO
namespace Go.Proofs.Qxb6604761a
open Go.RowKit
set_option linter.unusedVariables false

/-- WHAT IS KNOWN OF A SLICE OF BYTES THAT CAME IN. -/
structure Bytes (w : World) (a : Option Addr) (n cap : Nat) (f : Nat → Nat) : Prop where
  b8 : B8 w a n f
  none : a = none → n = 0 ∧ cap = 0
  le : n ≤ cap
  max : cap ≤ maxLen
  lt : ∀ i, i < n → f i < 256

/-- What was wanted and what is got, byte for byte. -/
theorem whole_eq {n nn L t x : Nat} {fb f : Nat → Nat} (ht : t ≤ nn) (hL : L = nn - t) (j : Nat) (hj : j < n + vlen x + L) :
    whole n fb x f nn L j = if j < n + vlen x then (if j < n then fb j else vb x (j - n)) else f (t + (j - (n + vlen x))) := by
  unfold whole join
  split
  · rfl
  · unfold bt
    dsimp only
    rw [if_pos (by omega)]
    congr 1
    omega

set_option maxRecDepth 100000 in
set_option maxHeartbeats 4000000 in
theorem law4 (a0 a2 : Option Addr) (n cap0 nn cap2 : Nat) (neg : Bool) (fb f : Nat → Nat) (w : World) (h0 : Bytes w a0 n cap0 fb) (h2 : Bytes w a2 nn cap2 f) :
    Calls Try.prog 4 #[.slice a0 n cap0, .bool neg, .slice a2 nn cap2] w (fun e w' => e = .returned (.bool true) ∧ Below w.heap.size w w') := by
  have m0 : n ≤ maxLen := Nat.le_trans h0.le h0.max
  have m2 : nn ≤ maxLen := Nat.le_trans h2.le h2.max
  have H0 := Hid.mk h0
  have H2 := Hid.mk h2
  clear h0 h2
  go_enter Try.func4, Try.ntmps4
  go_wp2_with fail
  refine (bytes12 a0 n cap0 neg a2 nn cap2 w m0 m2).mono ?_
  rintro e w' ⟨⟨r, rfl⟩, hw⟩
  obtain rfl := hw.symm
  clear hw
  unfold maxLen at m0 m2
  rcases r with _ | _
  · go_wp2
    go_ret
    exact ⟨rfl, Below.refl _ _⟩
  by_cases hn : 65536 < n
  · have hnI : (65536 : Int) < (n : Int) := by omega
    go_wp2
    go_ret
    exact ⟨rfl, Below.refl _ _⟩
  by_cases hnn : 65536 < nn
  · have hnI : ¬ (65536 : Int) < (n : Int) := by omega
    have hnI2 : (65536 : Int) < (nn : Int) := by omega
    go_wp2
    go_ret
    exact ⟨rfl, Below.refl _ _⟩
  have hnI : ¬ (65536 : Int) < (n : Int) := by omega
  have hnI2 : ¬ (65536 : Int) < (nn : Int) := by omega
  go_wp2_with fail
  refine (clone_any a0 n cap0 fb w H0.out.b8 (by omega) H0.out.none).mono ?_
  rintro e w1 ⟨ab, rfl, hC1, hb1⟩
  go_wp2_with fail
  refine (clone_any a2 nn cap2 f w1 (H2.out.b8.below hb1) (by omega) H2.out.none).mono ?_
  rintro e w2 ⟨am, rfl, hD2, hb2⟩
  have hC2 := hC1.below hb2
  obtain ⟨t, ht, hz, hnz⟩ := trim_exists f nn
  have hL := len_of_trim ht hz hnz
  have HL := Hid.mk hL
  have HZ := Hid.mk hz
  have HNZ := Hid.mk hnz
  obtain ⟨L, hLt⟩ : ∃ L, L = nn - t := ⟨_, rfl⟩
  have hLle : L ≤ 65536 := by omega
  rw [← hLt] at hL
  have HL := Hid.mk hL
  clear hL hz hnz hC1
  go_wp2_with fail
  refine (trim_any am nn nn t f w2 hD2.b8 (by omega) ht HZ.out HNZ.out).mono ?_
  rw [← hLt]
  rintro e w3 ⟨rfl, hR3, hT3, hs3, hb3⟩
  have hC3 := hC2.below hb3
  have hD3 := hD2.below hb3
  have HR3 := Hid.mk hR3
  have HLt := Hid.mk hLt
  clear hLt hR3 hT3 HZ HNZ hC2 hD2
  have hx := hd_lt neg (show L ≤ 1048576 by omega)
  have hvl : vlen (hd neg L) ≤ 10 := Lib.uvarint_length64 (by omega)
  have hhd : hd neg L = 2 * L + (neg && decide (0 < L)).toNat := rfl
  have HHD := Hid.mk hhd
  clear hhd
  go_upto_region 11 with fail
  go_cut [37] (fun v w' => v = .bool (neg && decide (0 < L)) ∧ w' = w3)
  case first =>
    rcases neg with _ | _
    · go_wp2
      go_meet
      case rel => exact ⟨by simp, rfl⟩
    · go_wp2
      go_meet
      case rel => exact ⟨by simp, rfl⟩
  case rest =>
    obtain ⟨rfl, hw⟩ := hcut
    obtain rfl := hw.symm
    clear hw
    generalize hxe : hd neg L = x at *
    have HX := Hid.mk hxe
    clear hxe
    generalize (neg && decide (0 < L)) = q at HHD ⊢
    go_upto_if 37 with fail
    go_cut [8] (fun v w' => v = .int .u64 (x : Int) ∧ w' = w3)
    case first =>
      rcases q with _ | _
      · go_wp2
        go_meet
        case rel => exact ⟨int_val (by have := HHD.out; simp at this; omega), rfl⟩
      · go_wp2
        go_meet
        case rel => exact ⟨int_val (by have := HHD.out; simp at this; omega), rfl⟩
    case rest =>
      obtain ⟨rfl, hw⟩ := hcut
      obtain rfl := hw.symm
      clear hw HHD
      go_wp2_with fail
      refine (uvarint_any x w3 (by omega)).mono ?_
      rintro e w4 ⟨rfl, hR4, hT4, hs4, hb4⟩
      have hC4 := hC3.below hb4
      have hD4 := hD3.below hb4
      have hM4 := HR3.out.below hb4 hs3
      have u4 := hR4.b8 hs4
      clear hT4
      go_wp2_with fail
      refine (concat_any ab (some ⟨w3.heap.size, 0, none⟩) n n (vlen x) (vlen x) fb (vb x) w4 hC4.b8 u4 (by omega) (by omega)).mono ?_
      rintro e w5 ⟨rfl, hR5, hT5, hs5, hb5⟩
      have hC5 := hC4.below hb5
      have hD5 := hD4.below hb5
      have hM5 := (hM4.below hb5 (Nat.lt_trans hs3 hs4)).b8 (w := w5) (by omega)
      have u5 := hR5.b8 hs5
      clear hT5 u4
      go_wp2_with fail
      refine (concat_any (some ⟨w4.heap.size, 0, none⟩) (some ⟨w2.heap.size, 0, none⟩) (n + vlen x) (n + vlen x) L L _ (fun j => f (t + j)) w5 u5 hM5 (by omega) (by omega)).mono ?_
      rintro e w6 ⟨rfl, hR6, hT6, hs6, hb6⟩
      have hC6 := hC5.below hb6
      have hD6 := hD5.below hb6
      have HR6 := Hid.mk hR6
      clear hT6 u5 hR6 hR5 hR4 hM5 hM4
      have HC6 := Hid.mk hC6
      have HD6 := Hid.mk hD6
      clear hC3 hC4 hC5 hC6 hD3 hD4 hD5 hD6
      go_wp2_with fail
      refine (zzint_any ab am n nn nn L neg f fb w6 HC6.out HD6.out.b8 (by omega) (by omega) (Nat.le_refl _) (by unfold maxLen; omega) H2.out.lt HL.out).mono ?_
      rw [HX.out]
      rintro e w7 ⟨h, cap, rfl, hB7, hb7⟩
      have hG7 := hB7.row.b8 hB7.lt
      have hW7 := (HR6.out.below hb7 hs6).b8 (w := w7) (by have := hb7.size; omega)
      have hlt := HLt.out
      have heq : ∀ j, j < n + vlen x + L → whole n fb x f nn L j = if j < n + vlen x then (if j < n then fb j else vb x (j - n)) else f (t + (j - (n + vlen x))) := fun j hj => whole_eq ht hlt j hj
      have HEQ := Hid.mk heq
      have HG7 := Hid.mk hG7
      have HW7 := Hid.mk hW7
      clear heq hG7 hW7 hB7 hlt
      go_wp2_with fail
      refine (eq_true (some ⟨h, 0, none⟩) (some ⟨w5.heap.size, 0, none⟩) (n + vlen x + L) cap (n + vlen x + L) _ _ w7 HG7.out HW7.out (by omega) HEQ.out).mono ?_
      rintro e w8 ⟨rfl, hb8⟩
      go_wp2
      go_ret
      have q2 : Below w.heap.size w w2 := hb1.trans (hb2.mono hb1.size)
      have q3 : Below w.heap.size w w3 := q2.trans (hb3.mono q2.size)
      have q4 : Below w.heap.size w w4 := q3.trans (hb4.mono q3.size)
      have q5 : Below w.heap.size w w5 := q4.trans (hb5.mono q4.size)
      have q6 : Below w.heap.size w w6 := q5.trans (hb6.mono q5.size)
      have q7 : Below w.heap.size w w7 := q6.trans (hb7.mono q6.size)
      exact ⟨rfl, q7.trans (hb8.mono q7.size)⟩

end Go.Proofs.Qxb6604761a
