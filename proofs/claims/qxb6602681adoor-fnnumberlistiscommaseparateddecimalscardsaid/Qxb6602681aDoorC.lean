/-
  DERIVED. PLAIN: where each numeral stands in the text.
-/
import Derived.Test.Qxb6602681aDoorB
namespace Go.Proofs.Qxb6602681aDoor
open Go.RowKit
set_option linter.unusedVariables false

/-- Each numeral with its comma. -/
def flat (V : Nat → Int) (n : Nat) : List UInt8 := ((List.range n).map fun j => Lib.itoa (V j) ++ [44]).flatten
theorem flat_succ (V : Nat → Int) (n : Nat) : flat V (n + 1) = flat V n ++ (Lib.itoa (V n) ++ [44]) := by simp [flat, List.range_succ]
theorem flat_prefix (V : Nat → Int) (k : Nat) : ∀ d, ∃ r, flat V (k + d) = flat V k ++ r
  | 0 => ⟨[], by simp⟩
  | d + 1 => by
    obtain ⟨r, hr⟩ := flat_prefix V k d
    exact ⟨r ++ (Lib.itoa (V (k + d)) ++ [44]), by rw [← Nat.add_assoc, flat_succ, hr, List.append_assoc]⟩

theorem join_flat (sep : List UInt8) : ∀ (r : List (List UInt8)) (x : List UInt8), Lib.join (x :: r) sep ++ sep = ((x :: r).map (· ++ sep)).flatten
  | [], x => by simp [Lib.join_one]
  | y :: r, x => by
    have h := join_flat sep r y
    rw [Lib.join_cons] at h ⊢
    simp only [Lib.joinTail, List.map_cons, List.flatten_cons, List.append_assoc] at h ⊢
    rw [h]

theorem text_flat (V : Nat → Int) (n : Nat) (hn : 0 < n) : text V n ++ [44] = flat V n := by
  unfold text flat
  obtain ⟨m, rfl⟩ : ∃ m, n = m + 1 := ⟨n - 1, by omega⟩
  rw [List.range_succ_eq_map, List.map_cons, join_flat]
  simp
  rfl

/-- Where numeral k begins. -/
def at0 (V : Nat → Int) (k : Nat) : Nat := (flat V k).length
theorem at0_zero (V : Nat → Int) : at0 V 0 = 0 := rfl
theorem at0_succ (V : Nat → Int) (k : Nat) : at0 V (k + 1) = at0 V k + (Lib.itoa (V k)).length + 1 := by
  unfold at0
  rw [flat_succ]
  simp
  omega
theorem at0_le (V : Nat → Int) (k d : Nat) : at0 V k ≤ at0 V (k + d) := by
  obtain ⟨r, hr⟩ := flat_prefix V k d
  unfold at0
  rw [hr, List.length_append]
  omega
theorem text_len (V : Nat → Int) (n : Nat) (hn : 0 < n) : (text V n).length + 1 = at0 V n := by
  have := congrArg List.length (text_flat V n hn)
  simpa [at0] using this

/-- The text's byte t of numeral k; and the comma behind it. -/
theorem text_at (V : Nat → Int) (n k t : Nat) (hk : k < n) (x : UInt8) (hx : (Lib.itoa (V k) ++ [44])[t]? = some x) (h : at0 V k + t < (text V n).length) : (text V n)[at0 V k + t]'h = x := by
  obtain ⟨r, hr⟩ := flat_prefix V (k + 1) (n - (k + 1))
  rw [show k + 1 + (n - (k + 1)) = n by omega, flat_succ] at hr
  have e : (text V n ++ [44])[at0 V k + t]? = some x := by
    rw [text_flat V n (by omega), hr]
    have ht := (List.getElem?_eq_some_iff.1 hx).1
    rw [List.append_assoc, List.getElem?_append_right (by unfold at0; omega)]
    rw [show at0 V k + t - (flat V k).length = t by unfold at0; omega, List.getElem?_append_left ht]
    exact hx
  rw [List.getElem?_append_left h] at e
  exact (List.getElem?_eq_some_iff.1 e).2

/-- Byte i of the string that a list of bytes makes. -/
theorem str_at (l : List UInt8) (i : Nat) (h : i < (⟨l.toArray⟩ : ByteArray).size) (h' : i < l.length) : (⟨l.toArray⟩ : ByteArray)[i]'h = l[i]'h' := rfl
theorem str_size (l : List UInt8) : (⟨l.toArray⟩ : ByteArray).size = l.length := rfl

theorem dec_at (u t : Nat) (ht : t < Lib.nDigits u) : ∃ x, (Lib.decDigits u)[t]? = some x ∧ x.toNat = 48 + dig u (Lib.nDigits u) t := by
  refine ⟨UInt8.ofNat (48 + u / 10 ^ (Lib.nDigits u - 1 - t) % 10), ?_, ?_⟩
  · rw [Lib.decDigits_eq]
    simp [ht, Lib.dg]
  · have := dig_lt u (Lib.nDigits u) t
    unfold dig at this ⊢
    rw [UInt8.toNat_ofNat']
    omega

/-- NUMERAL k, as readDecimal wants it. -/
theorem elem_num (V : Nat → Int) (n k : Nat) (hk : k < n) : ∃ a u D, ∃ neg : Bool, ∃ ho : at0 V k < (⟨(text V n).toArray⟩ : ByteArray).size,
    Num ⟨(text V n).toArray⟩ a u D ∧ (if neg then a = at0 V k + 1 ∧ ((⟨(text V n).toArray⟩ : ByteArray)[at0 V k]'ho).toNat = 45 else a = at0 V k) ∧ V k = (if neg then -(u : Int) else (u : Int)) ∧ a + D + 1 = at0 V (k + 1) := by
  have hlen := text_len V n (by omega)
  have hs := at0_succ V k
  have hle := at0_le V (k + 1) (n - (k + 1))
  rw [show k + 1 + (n - (k + 1)) = n by omega] at hle
  by_cases hneg : V k < 0
  · have hi : Lib.itoa (V k) = 45 :: Lib.decDigits (V k).natAbs := by unfold Lib.itoa; rw [if_pos hneg]
    generalize hu : (V k).natAbs = u at *
    have hl : (Lib.itoa (V k)).length = Lib.nDigits u + 1 := by rw [hi, List.length_cons, Lib.decDigits_length]
    have hpos := Lib.nDigits_pos u
    have ho : at0 V k < (⟨(text V n).toArray⟩ : ByteArray).size := by rw [str_size]; omega
    refine ⟨at0 V k + 1, u, Lib.nDigits u, true, ho, ⟨by omega, Lib.lt_pow_nDigits u, by rw [str_size]; omega, fun t h ht => ?_, fun h => ?_⟩, ?_, ?_, by omega⟩
    · obtain ⟨x, hx, hxv⟩ := dec_at u t ht
      have e := text_at V n k (1 + t) hk x (by rw [hi, List.cons_append, Nat.add_comm 1 t, List.getElem?_cons_succ, List.getElem?_append_left (by rw [Lib.decDigits_length]; exact ht)]; exact hx) (by rw [str_size] at h; omega)
      rw [← hxv, ← e]
      rw [str_at _ _ _ (by rw [str_size] at h; exact h)]
      congr 2
      omega
    · have e := text_at V n k (Lib.nDigits u + 1) hk 44 (by rw [List.getElem?_append_right (by omega), hl]; simp) (by rw [str_size] at h; omega)
      rw [str_at _ _ _ (by rw [str_size] at h; exact h)]
      have e2 : (text V n)[at0 V k + 1 + Lib.nDigits u]'(by rw [str_size] at h; exact h) = 44 := by rw [← e]; congr 1; omega
      rw [e2]
      decide
    · have e := text_at V n k 0 hk 45 (by rw [hi]; rfl) (by rw [str_size] at ho; exact ho)
      simp only [if_true]
      refine ⟨trivial, ?_⟩
      rw [str_at _ _ _ (by rw [str_size] at ho; exact ho)]
      have e2 : (text V n)[at0 V k]'(by rw [str_size] at ho; exact ho) = 45 := e
      rw [e2]
      decide
    · simp only [if_true]
      omega
  · have hi : Lib.itoa (V k) = Lib.decDigits (V k).toNat := by unfold Lib.itoa; rw [if_neg hneg]
    generalize hu : (V k).toNat = u at *
    have hl : (Lib.itoa (V k)).length = Lib.nDigits u := by rw [hi, Lib.decDigits_length]
    have hpos := Lib.nDigits_pos u
    have ho : at0 V k < (⟨(text V n).toArray⟩ : ByteArray).size := by rw [str_size]; omega
    refine ⟨at0 V k, u, Lib.nDigits u, false, ho, ⟨by omega, Lib.lt_pow_nDigits u, by rw [str_size]; omega, fun t h ht => ?_, fun h => ?_⟩, by simp, ?_, by omega⟩
    · obtain ⟨x, hx, hxv⟩ := dec_at u t ht
      have e := text_at V n k t hk x (by rw [hi, List.getElem?_append_left (by rw [Lib.decDigits_length]; exact ht)]; exact hx) (by rw [str_size] at h; exact h)
      rw [← hxv, ← e]
      rfl
    · have e := text_at V n k (Lib.nDigits u) hk 44 (by rw [List.getElem?_append_right (by omega), hl]; simp) (by rw [str_size] at h; exact h)
      rw [str_at _ _ _ (by rw [str_size] at h; exact h), e]
      decide
    · simp
      omega

/-- The comma ahead of numeral k + 1. -/
theorem elem_comma (V : Nat → Int) (n k : Nat) (hk : k + 1 < n) : ∃ h : at0 V (k + 1) - 1 < (⟨(text V n).toArray⟩ : ByteArray).size, ((⟨(text V n).toArray⟩ : ByteArray)[at0 V (k + 1) - 1]'h).toNat = 44 := by
  have hlen := text_len V n (by omega)
  have hs := at0_succ V k
  have hs2 := at0_succ V (k + 1)
  have hle := at0_le V (k + 1 + 1) (n - (k + 1 + 1))
  rw [show k + 1 + 1 + (n - (k + 1 + 1)) = n by omega] at hle
  have h : at0 V (k + 1) - 1 < (text V n).length := by omega
  refine ⟨h, ?_⟩
  have e := text_at V n k (Lib.itoa (V k)).length (by omega) 44 (by rw [List.getElem?_append_right (by omega)]; simp) (by omega)
  rw [str_at _ _ _ h]
  have e2 : (text V n)[at0 V (k + 1) - 1]'h = 44 := by rw [← e]; congr 1; omega
  rw [e2]
  decide

end Go.Proofs.Qxb6602681aDoor
