/-
  DERIVED. PLAIN MATHEMATICS: bytes, words, bit lengths.
-/
import Derived.Test.Qxb6604761aD
import Derived.Lib.BitFns
import Derived.Lib.ItoaNum
namespace Go.Proofs.Qxb6604761a
open Go.RowKit
set_option linter.unusedVariables false

/-- Byte t of the number that f 0 .. f (n - 1) spell, the least byte first. -/
def bt (f : Nat → Nat) (n t : Nat) : Nat := if t < n then f (n - 1 - t) else 0
/-- Word k of it. -/
def wd (f : Nat → Nat) (n k : Nat) : Nat := num8 (bt f n (8 * k)) (bt f n (8 * k + 1)) (bt f n (8 * k + 2)) (bt f n (8 * k + 3)) (bt f n (8 * k + 4)) (bt f n (8 * k + 5)) (bt f n (8 * k + 6)) (bt f n (8 * k + 7))

theorem bt_lt {f : Nat → Nat} {n : Nat} (hf : ∀ i, i < n → f i < 256) (t : Nat) : bt f n t < 256 := by
  unfold bt
  split
  · exact hf _ (by omega)
  · omega

theorem num8_lt {b0 b1 b2 b3 b4 b5 b6 b7 : Nat} (h0 : b0 < 256) (h1 : b1 < 256) (h2 : b2 < 256) (h3 : b3 < 256) (h4 : b4 < 256) (h5 : b5 < 256) (h6 : b6 < 256) (h7 : b7 < 256) : num8 b0 b1 b2 b3 b4 b5 b6 b7 < 18446744073709551616 := by
  unfold num8; omega
theorem wd_lt {f : Nat → Nat} {n : Nat} (hf : ∀ i, i < n → f i < 256) (k : Nat) : wd f n k < 18446744073709551616 :=
  num8_lt (bt_lt hf _) (bt_lt hf _) (bt_lt hf _) (bt_lt hf _) (bt_lt hf _) (bt_lt hf _) (bt_lt hf _) (bt_lt hf _)

/-- Word k shifted right by s bytes. -/
def sh (f : Nat → Nat) (n k s : Nat) : Nat := wd f n k / 256 ^ s
theorem sh_zero (f : Nat → Nat) (n k : Nat) : sh f n k 0 = wd f n k := by simp [sh]
theorem sh_succ (f : Nat → Nat) (n k s : Nat) : sh f n k (s + 1) = sh f n k s / 256 := by simp [sh, Nat.pow_succ, Nat.div_div_eq_div_mul]
theorem sh_le (f : Nat → Nat) (n k s : Nat) : sh f n k s ≤ wd f n k := Nat.div_le_self _ _

theorem num8_byte {b0 b1 b2 b3 b4 b5 b6 b7 : Nat} (h0 : b0 < 256) (h1 : b1 < 256) (h2 : b2 < 256) (h3 : b3 < 256) (h4 : b4 < 256) (h5 : b5 < 256) (h6 : b6 < 256) (h7 : b7 < 256) :
    num8 b0 b1 b2 b3 b4 b5 b6 b7 / 256 ^ 0 % 256 = b0 ∧ num8 b0 b1 b2 b3 b4 b5 b6 b7 / 256 ^ 1 % 256 = b1 ∧ num8 b0 b1 b2 b3 b4 b5 b6 b7 / 256 ^ 2 % 256 = b2 ∧ num8 b0 b1 b2 b3 b4 b5 b6 b7 / 256 ^ 3 % 256 = b3 ∧
    num8 b0 b1 b2 b3 b4 b5 b6 b7 / 256 ^ 4 % 256 = b4 ∧ num8 b0 b1 b2 b3 b4 b5 b6 b7 / 256 ^ 5 % 256 = b5 ∧ num8 b0 b1 b2 b3 b4 b5 b6 b7 / 256 ^ 6 % 256 = b6 ∧ num8 b0 b1 b2 b3 b4 b5 b6 b7 / 256 ^ 7 % 256 = b7 := by
  unfold num8
  refine ⟨?_, ?_, ?_, ?_, ?_, ?_, ?_, ?_⟩ <;> simp only [Nat.reducePow] <;> omega

theorem sh_byte {f : Nat → Nat} {n : Nat} (hf : ∀ i, i < n → f i < 256) (k s : Nat) (hs : s < 8) : sh f n k s % 256 = bt f n (8 * k + s) := by
  obtain ⟨e0, e1, e2, e3, e4, e5, e6, e7⟩ := num8_byte (bt_lt hf (8 * k)) (bt_lt hf (8 * k + 1)) (bt_lt hf (8 * k + 2)) (bt_lt hf (8 * k + 3)) (bt_lt hf (8 * k + 4)) (bt_lt hf (8 * k + 5)) (bt_lt hf (8 * k + 6)) (bt_lt hf (8 * k + 7))
  unfold sh wd
  match s, hs with
  | 0, _ => exact e0
  | 1, _ => exact e1
  | 2, _ => exact e2
  | 3, _ => exact e3
  | 4, _ => exact e4
  | 5, _ => exact e5
  | 6, _ => exact e6
  | 7, _ => exact e7

/-- THE LAST, SHORT WORD, as setBytes gathers it: t bytes from the end of the first i. -/
def ps (f : Nat → Nat) (i t : Nat) : Nat := num8 (if 0 < t then f (i - 1 - 0) else 0) (if 1 < t then f (i - 1 - 1) else 0) (if 2 < t then f (i - 1 - 2) else 0) (if 3 < t then f (i - 1 - 3) else 0) (if 4 < t then f (i - 1 - 4) else 0) (if 5 < t then f (i - 1 - 5) else 0) (if 6 < t then f (i - 1 - 6) else 0) (if 7 < t then f (i - 1 - 7) else 0)
theorem ps_zero (f : Nat → Nat) (i : Nat) : ps f i 0 = 0 := by simp [ps, num8]
theorem ps_succ (f : Nat → Nat) (i t : Nat) (ht : t < 8) : ps f i (t + 1) = ps f i t + f (i - 1 - t) * 256 ^ t := by
  unfold ps num8
  match t, ht with
  | 0, _ => simp only [Nat.reduceAdd, Nat.reduceLT, if_true, if_false, Nat.reducePow]; omega
  | 1, _ => simp only [Nat.reduceAdd, Nat.reduceLT, if_true, if_false, Nat.reducePow]; omega
  | 2, _ => simp only [Nat.reduceAdd, Nat.reduceLT, if_true, if_false, Nat.reducePow]; omega
  | 3, _ => simp only [Nat.reduceAdd, Nat.reduceLT, if_true, if_false, Nat.reducePow]; omega
  | 4, _ => simp only [Nat.reduceAdd, Nat.reduceLT, if_true, if_false, Nat.reducePow]; omega
  | 5, _ => simp only [Nat.reduceAdd, Nat.reduceLT, if_true, if_false, Nat.reducePow]; omega
  | 6, _ => simp only [Nat.reduceAdd, Nat.reduceLT, if_true, if_false, Nat.reducePow]; omega
  | 7, _ => simp only [Nat.reduceAdd, Nat.reduceLT, if_true, if_false, Nat.reducePow]; omega
theorem ps_lt {f : Nat → Nat} {i : Nat} (hf : ∀ j, j < i → f j < 256) : ∀ t, t ≤ i → t ≤ 8 → ps f i t < 256 ^ t
  | 0, _, _ => by rw [ps_zero]; simp
  | t + 1, h, h8 => by
    have h1 := ps_lt hf t (by omega) (by omega)
    have h2 := hf (i - 1 - t) (by omega)
    rw [ps_succ f i t (by omega), Nat.pow_succ]
    have h3 : f (i - 1 - t) * 256 ^ t ≤ 255 * 256 ^ t := Nat.mul_le_mul_right _ (by omega)
    omega
theorem wd_last {f : Nat → Nat} {n q r : Nat} (h : r + 8 * q = n) (hr : r < 8) : wd f n q = ps f r r := by
  have e : ∀ s, bt f n (8 * q + s) = if s < r then f (r - 1 - s) else 0 := fun s => by
    unfold bt
    by_cases hs : s < r
    · rw [if_pos hs, if_pos (by omega)]
      congr 1
      omega
    · rw [if_neg hs, if_neg (by omega)]
  have e0 := e 0
  rw [Nat.add_zero] at e0
  unfold wd ps
  rw [e0, e 1, e 2, e 3, e 4, e 5, e 6, e 7]
theorem wd_full {f : Nat → Nat} {n q i : Nat} (h : i + 8 * q = n) (hi : 8 ≤ i) : wd f n q = num8 (f (i - 8 + 7)) (f (i - 8 + 6)) (f (i - 8 + 5)) (f (i - 8 + 4)) (f (i - 8 + 3)) (f (i - 8 + 2)) (f (i - 8 + 1)) (f (i - 8)) := by
  have e : ∀ s, s < 8 → bt f n (8 * q + s) = f (i - 8 + (7 - s)) := fun s hs => by
    unfold bt
    rw [if_pos (by omega)]
    congr 1
    omega
  have e0 := e 0 (by omega)
  rw [Nat.add_zero] at e0
  unfold wd
  rw [e0, e 1 (by omega), e 2 (by omega), e 3 (by omega), e 4 (by omega), e 5 (by omega), e 6 (by omega), e 7 (by omega)]
  simp only [Nat.reduceSub, Nat.add_zero]

/-- HOW LONG THE NUMBER IS: L bytes, its top byte not nought. -/
structure Len (f : Nat → Nat) (n L : Nat) : Prop where
  le : L ≤ n
  zero : ∀ t, L ≤ t → bt f n t = 0
  top : 0 < L → bt f n (L - 1) ≠ 0

theorem Len.word_zero {f : Nat → Nat} {n L : Nat} (h : Len f n L) {k : Nat} (hk : (L + 7) / 8 ≤ k) : wd f n k = 0 := by
  unfold wd
  rw [h.zero _ (by omega), h.zero _ (by omega), h.zero _ (by omega), h.zero _ (by omega), h.zero _ (by omega), h.zero _ (by omega), h.zero _ (by omega), h.zero _ (by omega)]
  rfl

theorem num8_bounds {b0 b1 b2 b3 b4 b5 b6 b7 : Nat} (h0 : b0 < 256) (h1 : b1 < 256) (h2 : b2 < 256) (h3 : b3 < 256) (h4 : b4 < 256) (h5 : b5 < 256) (h6 : b6 < 256) (h7 : b7 < 256) (s : Nat) (hs : s < 8)
    (htop : [b0, b1, b2, b3, b4, b5, b6, b7].getD s 0 ≠ 0) (hz : ∀ t, s < t → t < 8 → [b0, b1, b2, b3, b4, b5, b6, b7].getD t 0 = 0) :
    256 ^ s ≤ num8 b0 b1 b2 b3 b4 b5 b6 b7 ∧ num8 b0 b1 b2 b3 b4 b5 b6 b7 < 256 ^ (s + 1) := by
  have z1 := hz 1
  have z2 := hz 2
  have z3 := hz 3
  have z4 := hz 4
  have z5 := hz 5
  have z6 := hz 6
  have z7 := hz 7
  unfold num8
  match s, hs with
  | 0, _ => simp at htop z1 z2 z3 z4 z5 z6 z7 ⊢; omega
  | 1, _ => simp at htop z1 z2 z3 z4 z5 z6 z7 ⊢; omega
  | 2, _ => simp at htop z1 z2 z3 z4 z5 z6 z7 ⊢; omega
  | 3, _ => simp at htop z1 z2 z3 z4 z5 z6 z7 ⊢; omega
  | 4, _ => simp at htop z1 z2 z3 z4 z5 z6 z7 ⊢; omega
  | 5, _ => simp at htop z1 z2 z3 z4 z5 z6 z7 ⊢; omega
  | 6, _ => simp at htop z1 z2 z3 z4 z5 z6 z7 ⊢; omega
  | 7, _ => simp at htop z1 z2 z3 z4 z5 z6 z7 ⊢; omega

theorem Len.bounds {f : Nat → Nat} {n L : Nat} (h : Len f n L) (hf : ∀ i, i < n → f i < 256) (hL : 0 < L) :
    256 ^ ((L - 1) % 8) ≤ wd f n ((L - 1) / 8) ∧ wd f n ((L - 1) / 8) < 256 ^ ((L - 1) % 8 + 1) := by
  have g : ∀ t, t < 8 → [bt f n (8 * ((L - 1) / 8)), bt f n (8 * ((L - 1) / 8) + 1), bt f n (8 * ((L - 1) / 8) + 2), bt f n (8 * ((L - 1) / 8) + 3), bt f n (8 * ((L - 1) / 8) + 4), bt f n (8 * ((L - 1) / 8) + 5), bt f n (8 * ((L - 1) / 8) + 6), bt f n (8 * ((L - 1) / 8) + 7)].getD t 0 = bt f n (8 * ((L - 1) / 8) + t) := fun t ht => by
    match t, ht with
    | 0, _ => rfl
    | 1, _ => rfl
    | 2, _ => rfl
    | 3, _ => rfl
    | 4, _ => rfl
    | 5, _ => rfl
    | 6, _ => rfl
    | 7, _ => rfl
  refine num8_bounds (bt_lt hf _) (bt_lt hf _) (bt_lt hf _) (bt_lt hf _) (bt_lt hf _) (bt_lt hf _) (bt_lt hf _) (bt_lt hf _) ((L - 1) % 8) (by omega) ?_ (fun t h1 h2 => ?_)
  · rw [g _ (by omega), show 8 * ((L - 1) / 8) + (L - 1) % 8 = L - 1 by omega]
    exact h.top hL
  · rw [g _ h2]
    exact h.zero _ (by omega)

theorem Len.word_top {f : Nat → Nat} {n L : Nat} (h : Len f n L) (hf : ∀ i, i < n → f i < 256) (hL : 0 < L) : wd f n ((L - 1) / 8) ≠ 0 := by
  have := (h.bounds hf hL).1
  have h2 : 0 < 256 ^ ((L - 1) % 8) := Nat.pow_pos (by omega)
  omega

/-- THE BIT LENGTH OF THE TOP WORD, rounded up to bytes. -/
theorem Len.bits {f : Nat → Nat} {n L : Nat} (h : Len f n L) (hf : ∀ i, i < n → f i < 256) (hL : 0 < L) :
    1 ≤ Lib.bitLen (wd f n ((L - 1) / 8)) ∧ Lib.bitLen (wd f n ((L - 1) / 8)) ≤ 64 ∧ (64 * ((L - 1) / 8) + Lib.bitLen (wd f n ((L - 1) / 8)) + 7) / 8 = L := by
  obtain ⟨b1, b2⟩ := h.bounds hf hL
  have hlt := wd_lt hf ((L - 1) / 8)
  have hne := h.word_top hf hL
  generalize wd f n ((L - 1) / 8) = x at *
  obtain ⟨c1, c2, c3⟩ := Lib.bitLenAux_bounds 64 x (by simpa using hlt) hne
  have c4 := Lib.bitLen_le x 64 (Nat.le_refl _) (by simpa using hlt)
  have c5 : Lib.bitLenAux 64 x = Lib.bitLen x := rfl
  rw [c5] at c1 c2 c3
  have k1 : 8 * ((L - 1) % 8) < Lib.bitLen x := by
    have : 2 ^ (8 * ((L - 1) % 8)) < 2 ^ Lib.bitLen x := by
      rw [Nat.pow_mul]
      exact Nat.lt_of_le_of_lt b1 c3
    exact (Nat.pow_lt_pow_iff_right (by omega)).1 this
  have k2 : Lib.bitLen x - 1 < 8 * ((L - 1) % 8 + 1) := by
    have : 2 ^ (Lib.bitLen x - 1) < 2 ^ (8 * ((L - 1) % 8 + 1)) := by
      rw [Nat.pow_mul]
      exact Nat.lt_of_le_of_lt c2 b2
    exact (Nat.pow_lt_pow_iff_right (by omega)).1 this
  refine ⟨c1, c4, ?_⟩
  omega

/-- From the leading noughts to the length. -/
theorem len_of_trim {f : Nat → Nat} {n t : Nat} (ht : t ≤ n) (hz : ∀ i, i < t → f i = 0) (hnz : t < n → f t ≠ 0) : Len f n (n - t) := by
  refine ⟨by omega, fun s hs => ?_, fun h => ?_⟩
  · unfold bt
    split
    · exact hz _ (by omega)
    · rfl
  · unfold bt
    rw [if_pos (by omega), show n - 1 - (n - t - 1) = t by omega]
    exact hnz (by omega)

theorem trim_exists (f : Nat → Nat) (n : Nat) : ∃ t, t ≤ n ∧ (∀ i, i < t → f i = 0) ∧ (t < n → f t ≠ 0) := by
  induction n with
  | zero => exact ⟨0, Nat.le_refl _, fun i hi => absurd hi (Nat.not_lt_zero _), fun h => absurd h (Nat.lt_irrefl _)⟩
  | succ n ih =>
    obtain ⟨t, h1, h2, h3⟩ := ih
    by_cases e : t = n
    · subst e
      by_cases hz : f t = 0
      · refine ⟨t + 1, Nat.le_refl _, fun i hi => ?_, fun h => absurd h (Nat.lt_irrefl _)⟩
        by_cases e' : i = t
        · subst e'; exact hz
        · exact h2 i (by omega)
      · exact ⟨t, by omega, h2, fun _ => hz⟩
    · exact ⟨t, by omega, h2, fun _ => h3 (by omega)⟩

/-! ### smearing a word's bits -/
theorem or_bounds {x y L : Nat} (hx : x < 2 ^ L) (hy : y < 2 ^ L) : x ≤ x ||| y ∧ x ||| y < 2 ^ L := ⟨Nat.left_le_or, Nat.or_lt_two_pow hx hy⟩
theorem bitLen_mono {x y : Nat} (hx : x ≠ 0) (hxy : x ≤ y) (hy : y < 2 ^ Lib.bitLen x) (h64 : x < 18446744073709551616) : Lib.bitLen y = Lib.bitLen x := by
  have hx64 : x < 2 ^ 64 := by simpa using h64
  have c4 := Lib.bitLen_le x 64 (Nat.le_refl _) hx64
  have hy64 : y < 2 ^ 64 := Nat.lt_of_lt_of_le hy (Nat.pow_le_pow_right (by omega) c4)
  obtain ⟨c1, c2, c3⟩ := Lib.bitLenAux_bounds 64 x hx64 hx
  obtain ⟨d1, d2, d3⟩ := Lib.bitLenAux_bounds 64 y hy64 (by omega)
  have c5 : Lib.bitLenAux 64 x = Lib.bitLen x := rfl
  have d5 : Lib.bitLenAux 64 y = Lib.bitLen y := rfl
  rw [c5] at c1 c2 c3
  rw [d5] at d1 d2 d3
  have k1 : Lib.bitLen y - 1 < Lib.bitLen x := (Nat.pow_lt_pow_iff_right (a := 2) (by omega)).1 (Nat.lt_of_le_of_lt d2 hy)
  have k2 : Lib.bitLen x - 1 < Lib.bitLen y := (Nat.pow_lt_pow_iff_right (a := 2) (by omega)).1 (Nat.lt_of_le_of_lt c2 (Nat.lt_of_le_of_lt hxy d3))
  omega

end Go.Proofs.Qxb6604761a
