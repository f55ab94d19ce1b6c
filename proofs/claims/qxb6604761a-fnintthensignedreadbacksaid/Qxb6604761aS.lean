/-
  DERIVED. The law FnIntThenSignedReadBack: the walk.
-/
import Derived.Test.Qxb6604761aR
import Derived.Test.Qxb6604761aP
namespace Go.Proofs.Qxb6604761a
open Go.RowKit
set_option linter.unusedVariables false

set_option maxHeartbeats 400000 in
theorem bytes18 (a0 : Option Addr) (len0 cap0 : Nat) (neg : Bool) (a2 : Option Addr) (len2 cap2 : Nat) (v : Int) (w : World) (h0 : len0 ≤ maxLen) (h2 : len2 ≤ maxLen) :
    Calls Try.prog 18 #[.slice a0 len0 cap0, .bool neg, .slice a2 len2 cap2, .int .i64 v] w (fun e w' => (∃ r : Bool, e = .returned (.bool r)) ∧ w' = w) := by
  unfold maxLen at h0 h2
  go_enter Try.func18, Try.ntmps18
  go_wp2
  all_goals
    go_ret
    exact ⟨⟨_, rfl⟩, rfl⟩

/-- All the bytes: b, the head, the magnitude, the signed number's varint. -/
def all5 (n : Nat) (fb : Nat → Nat) (x : Nat) (f : Nat → Nat) (nn L z : Nat) : Nat → Nat := join (n + vlen x + L) (whole n fb x f nn L) (vb z)

theorem all5_b {n x nn L z : Nat} {fb f : Nat → Nat} (j : Nat) (hj : j < n) : all5 n fb x f nn L z j = fb j := by
  unfold all5 whole join
  rw [if_pos (by omega), if_pos (by omega), if_pos hj]
theorem all5_x {n x nn L z : Nat} {fb f : Nat → Nat} (j : Nat) (hj : j < vlen x) : all5 n fb x f nn L z (n + j) = vb x j := by
  unfold all5 whole join
  rw [if_pos (by omega), if_pos (by omega), if_neg (by omega), Nat.add_sub_cancel_left]
theorem all5_m {n x nn L z t : Nat} {fb f : Nat → Nat} (ht : t ≤ nn) (hL : L = nn - t) (j : Nat) (hj : j < L) : all5 n fb x f nn L z (n + vlen x + j) = f (t + j) := by
  unfold all5
  rw [join, if_pos (by omega), whole_eq ht hL _ (by omega), if_neg (by omega), Nat.add_sub_cancel_left]
theorem all5_z {n x nn L z : Nat} {fb f : Nat → Nat} (j : Nat) : all5 n fb x f nn L z (n + vlen x + L + j) = vb z j := by
  unfold all5
  rw [join_at]

/-- The varint's last byte is not nought, where it has more than one. -/
theorem vb_top (x : Nat) (h : 1 < vlen x) : vb x (vlen x - 1) ≠ 0 := by
  obtain ⟨m, hm⟩ : ∃ m, vlen x = m + 1 + 1 := ⟨vlen x - 2, by omega⟩
  have h1 : x / 128 ^ (m + 1) ≠ 0 := (vlen_lt m x).1 (by omega)
  have h2 : x / 128 ^ (m + 1 + 1) = 0 := Decidable.byContradiction fun h' => by have := (vlen_lt (m + 1) x).2 h'; omega
  have h3 : x / 128 ^ (m + 1) / 128 = 0 := by rw [Nat.div_div_eq_div_mul, ← Nat.pow_succ]; exact h2
  rw [hm, Nat.add_sub_cancel]
  unfold vb
  rw [if_pos h2]
  omega

theorem hd_half (neg : Bool) (L : Nat) : hd neg L / 2 = L := by
  unfold hd
  have := Bool.toNat_le (neg && decide (0 < L))
  omega
theorem hd_mod (neg : Bool) (L : Nat) : hd neg L % 2 = (neg && decide (0 < L)).toNat := by
  unfold hd
  have := Bool.toNat_le (neg && decide (0 < L))
  omega

set_option maxRecDepth 100000 in
set_option maxHeartbeats 4000000 in
theorem law5 (a0 a2 : Option Addr) (n cap0 nn cap2 : Nat) (neg : Bool) (v : Int) (fb f : Nat → Nat) (w : World) (hv0 : -9223372036854775808 ≤ v) (hv1 : v ≤ 9223372036854775807) (h0 : Bytes w a0 n cap0 fb) (h2 : Bytes w a2 nn cap2 f) :
    Calls Try.prog 5 #[.slice a0 n cap0, .bool neg, .slice a2 nn cap2, .int .i64 v] w (fun e w' => e = .returned (.bool true) ∧ Below w.heap.size w w') := by
  have m0 : n ≤ maxLen := Nat.le_trans h0.le h0.max
  have m2 : nn ≤ maxLen := Nat.le_trans h2.le h2.max
  have H0 := Hid.mk h0
  have H2 := Hid.mk h2
  clear h0 h2
  go_enter Try.func5, Try.ntmps5
  go_wp2_with fail
  refine (bytes18 a0 n cap0 neg a2 nn cap2 v w m0 m2).mono ?_
  rintro e w' ⟨⟨r, rfl⟩, hw⟩
  obtain rfl := hw.symm
  clear hw
  unfold maxLen at m0 m2
  rcases r with _ | _
  · go_wp2
    go_ret
    exact ⟨rfl, Below.refl _ _⟩
  by_cases hn : 65536 < n
  · have hnI : (65536 : Int) < (n : Int) := by omega
    go_wp2
    go_ret
    exact ⟨rfl, Below.refl _ _⟩
  by_cases hnn : 65536 < nn
  · have hnI : ¬ (65536 : Int) < (n : Int) := by omega
    have hnI2 : (65536 : Int) < (nn : Int) := by omega
    go_wp2
    go_ret
    exact ⟨rfl, Below.refl _ _⟩
  have hnI : ¬ (65536 : Int) < (n : Int) := by omega
  have hnI2 : ¬ (65536 : Int) < (nn : Int) := by omega
  go_wp2_with fail
  refine (clone_any a0 n cap0 fb w H0.out.b8 (by omega) H0.out.none).mono ?_
  rintro e w1 ⟨ab, rfl, hC1, hb1⟩
  go_wp2_with fail
  refine (clone_any a2 nn cap2 f w1 (H2.out.b8.below hb1) (by omega) H2.out.none).mono ?_
  rintro e w2 ⟨am, rfl, hD2, hb2⟩
  have hC2 := hC1.below hb2
  obtain ⟨t, ht, hz, hnz⟩ := trim_exists f nn
  have hL := len_of_trim ht hz hnz
  have HZ := Hid.mk hz
  have HNZ := Hid.mk hnz
  obtain ⟨L, hLt⟩ : ∃ L, L = nn - t := ⟨_, rfl⟩
  have hLle : L ≤ 65536 := by omega
  rw [← hLt] at hL
  have HL := Hid.mk hL
  clear hL hz hnz hC1
  go_wp2_with fail
  refine (trim_any am nn nn t f w2 hD2.b8 (by omega) ht HZ.out HNZ.out).mono ?_
  rw [← hLt]
  rintro e w3 ⟨rfl, hR3, hT3, hs3, hb3⟩
  have hC3 := hC2.below hb3
  have hD3 := hD2.below hb3
  have HR3 := Hid.mk hR3
  have HLt := Hid.mk hLt
  have HC3 := Hid.mk hC3
  have HD3 := Hid.mk hD3
  clear hLt hR3 hT3 HZ HNZ hC2 hD2 hC3 hD3
  have hx := hd_lt neg (show L ≤ 1048576 by omega)
  have hxv : vlen (hd neg L) ≤ 10 := Lib.uvarint_length64 (by omega)
  have hxp := vlen_pos (hd neg L)
  have hxh := hd_half neg L
  have hxm := hd_mod neg L
  go_wp2_with fail
  refine (zzint_any ab am n nn nn L neg f fb w3 HC3.out HD3.out.b8 (by omega) (by omega) (Nat.le_refl _) (by unfold maxLen; omega) H2.out.lt HL.out).mono ?_
  generalize hd neg L = x at *
  rintro e w4 ⟨h, cap, rfl, hB4, hb4⟩
  have HB4 := Hid.mk hB4
  have hs4 := hb4.size
  clear hB4
  go_wp2_with fail
  refine (zzsigned_any w3.heap.size h (n + vlen x + L) cap v _ w4 hv0 hv1 HB4.out hs4 (by omega)).mono ?_
  have hzlt := Lib.zigzag_lt hv0 hv1
  have hzv : vlen (Lib.zigzag v) ≤ 10 := Lib.uvarint_length64 hzlt
  have hzp := vlen_pos (Lib.zigzag v)
  rintro e w5 ⟨g, cap', rfl, hB5, hb5⟩
  have q35 : Below w3.heap.size w3 w5 := hb4.trans hb5
  have hC5 := HC3.out.below q35
  have hM5 := (HR3.out.below q35 hs3).b8 (w := w5) (Nat.lt_of_lt_of_le hs3 q35.size)
  have q2 : Below w.heap.size w w2 := hb1.trans (hb2.mono hb1.size)
  have q3 : Below w.heap.size w w3 := q2.trans (hb3.mono q2.size)
  have q5 : Below w.heap.size w w5 := q3.trans (q35.mono q3.size)
  have hrow : Row w5 g (n + vlen x + L + vlen (Lib.zigzag v)) (all5 n fb x f nn L (Lib.zigzag v)) := hB5.row
  have hlt5 := hB5.lt
  have hle5 := hB5.le
  have hmx5 := hB5.max
  unfold maxLen at hmx5
  have HU := Hid.mk (fun (w : World) => unzig_any v w hv0 hv1)
  clear hb1 hb2 hb3 hb4 hb5 q2 q3 hB5 HB4 HC3 HD3 hs4 H0 H2
  generalize Lib.zigzag v = z at *
  have HP : Hid (∀ i, i < n → fb i = all5 n fb x f nn L z i) := Hid.mk fun i hi => (all5_b i hi).symm
  have HX : Hid (∀ j, j < vlen x → w5.cell? ⟨g, n + j, none⟩ = some (.int .u8 ((vb x j : Nat) : Int))) := Hid.mk fun j hj => by rw [← all5_x (n := n) (nn := nn) (L := L) (z := z) (fb := fb) (f := f) j hj]; exact hrow _ (by omega)
  have HM : Hid (∀ j, j < L → w5.cell? ⟨g, n + vlen x + j, none⟩ = some (.int .u8 ((f (t + j) : Nat) : Int))) := Hid.mk fun j hj => by rw [← all5_m (n := n) (x := x) (z := z) (fb := fb) (f := f) ht HLt.out j hj]; exact hrow _ (by omega)
  have HZ : Hid (∀ j, j < vlen z → w5.cell? ⟨g, n + vlen x + L + j, none⟩ = some (.int .u8 ((vb z j : Nat) : Int))) := Hid.mk fun j hj => by rw [← all5_z (n := n) (x := x) (nn := nn) (L := L) (fb := fb) (f := f) j]; exact hrow _ (by omega)
  have hG5 := Hid.mk (hrow.b8 hlt5)
  have HC5 := Hid.mk hC5.b8
  have HM5 := Hid.mk hM5
  have htop := vb_top x
  clear hrow hC5 hM5 HR3 HL HLt
  generalize hkk : n + vlen x = kk at *
  generalize hN1 : kk + L = N1 at *
  generalize hN2 : N1 + vlen z = N2 at *
  have HKK := Hid.mk hkk
  have HN1 := Hid.mk hN1
  have HN2 := Hid.mk hN2
  have hA0 : kk ≤ 65546 := by omega
  have hA1 : N2 ≤ 1048576 := by omega
  have hA2 : n ≤ N2 := by omega
  have hA3 : n + vlen x ≤ N2 := by omega
  have hA4 : N1 + vlen z ≤ N2 := by omega
  have e1 : (x : Int) / 2 = (L : Int) := by omega
  have e2 : ¬ ((N2 : Int) - (kk : Int) < (L : Int)) := by omega
  have e2' : (0 : Int) ≤ (N2 : Int) - (kk : Int) := by omega
  have e3 : (kk : Int) + (L : Int) = (N1 : Int) := by omega
  have e4 : (kk : Int) - (n : Int) = ((vlen x : Nat) : Int) := by omega
  have e5 : N1 - kk = L := by omega
  have e6 : (kk : Int) ≤ (N1 : Int) := by omega
  have e7 : (N1 : Int) ≤ (cap' : Int) := by omega
  have e8 : ¬ kk = 0 := by omega
  have e9 : ¬ cap' = kk := by omega
  have e10 : (0 : Int) ≤ (kk : Int) - 1 := by omega
  have e11 : (kk : Int) - 1 < (N2 : Int) := by omega
  have e12 : (N2 : Int) - (kk : Int) ≤ 16777216 := by omega
  clear hkk hN1 hN2 hxh
  have HMX := Hid.mk hmx5
  clear hmx5
  go_wp2_with fail
  refine (prefix_true ab (some ⟨g, 0, none⟩) n n N2 cap' fb _ w5 HC5.out hG5.out (by omega) hA2 HP.out).mono ?_
  rintro e w6 ⟨rfl, hb6⟩
  go_wp2_with fail
  refine (readUv g N2 cap' n x fb w6 (by omega) (fun j hj => (hb6.cell (p := ⟨g, n + j, none⟩) hlt5).trans (HX.out j hj)) hA1 hA3).mono ?_
  rintro e w7 ⟨rfl, hb7⟩
  rw [HKK.out]
  have q57 : Below w5.heap.size w5 w7 := hb6.trans (hb7.mono hb6.size)
  clear hb6 hb7
  go_wp2_with fail
  refine (readUv g N2 cap' N1 z fb w7 hzlt (fun j hj => (q57.cell (p := ⟨g, N1 + j, none⟩) hlt5).trans (HZ.out j hj)) hA1 hA4).mono ?_
  rintro e w8 ⟨rfl, hb8⟩
  rw [HN2.out]
  have q58 : Below w5.heap.size w5 w8 := q57.trans (hb8.mono q57.size)
  clear q57 hb8
  go_upto_region 25 with fail
  go_cut [20] (fun v w' => v = .bool true ∧ w' = w8)
  case first =>
    by_cases hv1 : vlen x = 1
    · have t1 : (((vlen x : Nat) : Int) == 1) = true := by simp; omega
      clear hv1
      go_wp2
      go_meet
      case rel => exact ⟨rfl, rfl⟩
    · have t1 : (((vlen x : Nat) : Int) == 1) = false := by simp; omega
      have t2 := htop (by omega)
      have t3 : (((vb x (vlen x - 1) : Nat) : Int) != 0) = true := by simp; omega
      have t4 := (q58.cell (p := ⟨g, n + (vlen x - 1), none⟩) hlt5).trans (HX.out (vlen x - 1) (by omega))
      rw [show n + (vlen x - 1) = kk - 1 by have := HKK.out; omega] at t4
      clear hv1 t2
      go_wp2
      go_meet
      case rel => exact ⟨rfl, rfl⟩
  case rest =>
    obtain ⟨rfl, hw⟩ := hcut
    obtain rfl := hw.symm
    clear hw
    have hmag : Hid (B8 w8 (some ⟨g, kk, none⟩) L (fun j => f (t + j))) := Hid.mk (.inr ⟨g, kk, rfl, Nat.lt_of_lt_of_le hlt5 q58.size, fun i hi => (q58.cell (p := ⟨g, kk + i, none⟩) hlt5).trans (HM.out i hi)⟩)
    have hmt := Hid.mk (HM5.out.below q58)
    have q8 : Below w.heap.size w w8 := q5.trans (q58.mono q5.size)
    have e13 := Lib.u64_and1 (x : Int) (by omega) (by omega)
    have HE : Hid (Calls Try.prog 17 #[.slice (some ⟨g, kk, none⟩) L (cap' - kk), .slice (some ⟨w2.heap.size, 0, none⟩) L L] w8 (fun e w' => e = .returned (.bool true) ∧ Below w8.heap.size w8 w')) := Hid.mk (eq_true _ _ L _ _ _ _ w8 hmag.out hmt.out (by omega) (fun _ _ => rfl))
    clear HX HM HZ HP htop HC5 HM5 hG5 hmag hmt q35 q5 q58
    rcases neg with _ | _
    · have e14 : (x : Int) % 2 = 0 := by simp at hxm; omega
      clear hxm
      go_wp2_with (first
        | (go_at_call 17; refine HE.out.mono ?_; rintro e w9 ⟨rfl, hb9⟩)
        | (go_at_call 11; refine (HU.out _).mono ?_; rintro e w10 ⟨rfl, hw10⟩; obtain rfl := hw10.symm)
        | fail)
      go_ret
      exact ⟨rfl, q8.trans (hb9.mono q8.size)⟩
    · by_cases hL0 : 0 < L
      · have e14 : (x : Int) % 2 = 1 := by simp [hL0] at hxm; omega
        have e15 : (0 : Int) < (L : Int) := by omega
        clear hxm
        go_wp2_with (first
          | (go_at_call 17; refine HE.out.mono ?_; rintro e w9 ⟨rfl, hb9⟩)
          | (go_at_call 11; refine (HU.out _).mono ?_; rintro e w10 ⟨rfl, hw10⟩; obtain rfl := hw10.symm)
          | fail)
        go_ret
        exact ⟨rfl, q8.trans (hb9.mono q8.size)⟩
      · have e14 : (x : Int) % 2 = 0 := by simp [hL0] at hxm; omega
        have e15 : ¬ (0 : Int) < (L : Int) := by omega
        clear hxm
        go_wp2_with (first
          | (go_at_call 17; refine HE.out.mono ?_; rintro e w9 ⟨rfl, hb9⟩)
          | (go_at_call 11; refine (HU.out _).mono ?_; rintro e w10 ⟨rfl, hw10⟩; obtain rfl := hw10.symm)
          | fail)
        go_ret
        exact ⟨rfl, q8.trans (hb9.mono q8.size)⟩

end Go.Proofs.Qxb6604761a
