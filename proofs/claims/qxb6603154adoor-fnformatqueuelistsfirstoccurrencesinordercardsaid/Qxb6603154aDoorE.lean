/-
  DERIVED. PLAIN: where each word stands in the text; first occurrences.
-/
import Derived.Test.Qxb6603154aDoorD
import Derived.Laws.Strings2
namespace Go.Proofs.Qxb6603154aDoor
open Go.RowKit
set_option linter.unusedVariables false

/-- Each word with its blank. -/
def flat (l : List Nat) : List UInt8 := (l.map fun x => Lib.decDigits x ++ [32]).flatten
theorem flat_snoc (l : List Nat) (x : Nat) : flat (l ++ [x]) = flat l ++ (Lib.decDigits x ++ [32]) := by simp [flat]
theorem flat_append (l r : List Nat) : flat (l ++ r) = flat l ++ flat r := by simp [flat]
theorem txt_blank (l : List Nat) : txt l ++ blank l = flat l := by
  generalize hn : l.length = n
  induction n generalizing l with
  | zero => rw [List.eq_nil_of_length_eq_zero hn, txt_nil]; rfl
  | succ n ih =>
    rcases snoc_cases l with h' | ⟨r, x, rfl⟩
    · rw [h'] at hn; cases hn
    · have h1 := ih r (by simpa using hn)
      have h2 : blank (r ++ [x]) = [32] := by unfold blank; rw [if_neg (by simp)]
      rw [txt_snoc, h1, h2, flat_snoc, List.append_assoc]
theorem txt_flat (l : List Nat) (h : l ≠ []) : txt l ++ [32] = flat l := by
  rw [← txt_blank, show blank l = [32] by unfold blank; rw [if_neg h]]

/-- Where word k begins. -/
def at0 (l : List Nat) (k : Nat) : Nat := (flat (l.take k)).length
theorem at0_zero (l : List Nat) : at0 l 0 = 0 := by simp [at0, flat]
theorem at0_succ (l : List Nat) (k : Nat) (hk : k < l.length) : at0 l (k + 1) = at0 l k + (Lib.decDigits (l[k]'hk)).length + 1 := by
  unfold at0
  rw [List.take_succ_eq_append_getElem hk, flat_snoc]
  simp
  omega
theorem at0_le (l : List Nat) (k : Nat) (hk : k < l.length) : at0 l (k + 1) ≤ at0 l l.length := by
  unfold at0
  rw [List.take_length]
  conv => rhs; rw [← List.take_append_drop (k + 1) l]
  rw [flat_append, List.length_append]
  omega
theorem at0_all (l : List Nat) (h : l ≠ []) : at0 l l.length = (txt l).length + 1 := by
  unfold at0
  rw [List.take_length, ← txt_flat l h]
  simp

/-- A word of the text: D bytes from a on, none of them a blank; a blank or the end behind them. -/
structure Word (s : ByteArray) (a D x : Nat) : Prop where
  le : a + D ≤ s.size
  pos : 0 < D
  dig : ∀ i (h : i < s.size), a ≤ i → i < a + D → 48 ≤ (s[i]'h).toNat
  stop : ∀ (h : a + D < s.size), (s[a + D]'h).toNat = 32
  ext : s.extract a (a + D) = ⟨(Lib.decDigits x).toArray⟩

theorem dec_ge (x : Nat) (b : UInt8) (h : b ∈ Lib.decDigits x) : 48 ≤ b.toNat := by
  rw [Lib.decDigits_eq] at h
  obtain ⟨t, _, rfl⟩ := List.mem_map.1 h
  unfold Lib.dg
  rw [UInt8.toNat_ofNat']
  omega

theorem word_at (l : List Nat) (k : Nat) (hk : k < l.length) : Word ⟨(txt l).toArray⟩ (at0 l k) (Lib.decDigits (l[k]'hk)).length (l[k]'hk) := by
  have hne : l ≠ [] := fun e => by rw [e] at hk; cases hk
  have hall := at0_all l hne
  have hs := at0_succ l k hk
  have hle := at0_le l k hk
  have hfl : txt l ++ [32] = flat (l.take k) ++ (Lib.decDigits (l[k]'hk) ++ ([32] ++ flat (l.drop (k + 1)))) := by
    rw [txt_flat l hne]
    conv => lhs; rw [← List.take_append_drop (k + 1) l, List.take_succ_eq_append_getElem hk]
    rw [flat_append, flat_snoc]
    simp only [List.append_assoc]
  have hlen : at0 l k + (Lib.decDigits (l[k]'hk)).length ≤ (txt l).length := by omega
  generalize hx : l[k]'hk = x at *
  have hget : ∀ i (h : i < (txt l).length), (txt l)[i]? = (flat (l.take k) ++ (Lib.decDigits x ++ ([32] ++ flat (l.drop (k + 1)))))[i]? := fun i h => by
    rw [← hfl, List.getElem?_append_left h]
  refine ⟨hlen, dec_pos x, fun i h h1 h2 => ?_, fun h => ?_, ?_⟩
  · have h' : i < (txt l).length := h
    have e := hget i h'
    rw [List.getElem?_append_right (by unfold at0 at h1; exact h1), List.getElem?_append_left (by unfold at0 at h1 h2; omega), List.getElem?_eq_getElem h', List.getElem?_eq_getElem (by unfold at0 at h1 h2; omega)] at e
    have e2 : (⟨(txt l).toArray⟩ : ByteArray)[i]'h = (txt l)[i]'h' := rfl
    rw [e2, Option.some.inj e]
    exact dec_ge x _ (List.getElem_mem _)
  · have h' : at0 l k + (Lib.decDigits x).length < (txt l).length := h
    have e := hget _ h'
    rw [List.getElem?_append_right (by unfold at0; omega), List.getElem?_append_right (by unfold at0; omega)] at e
    have e3 : at0 l k + (Lib.decDigits x).length - (flat (List.take k l)).length - (Lib.decDigits x).length = 0 := by unfold at0; omega
    rw [e3, List.getElem?_eq_getElem h'] at e
    have e2 : (⟨(txt l).toArray⟩ : ByteArray)[at0 l k + (Lib.decDigits x).length]'h = (txt l)[at0 l k + (Lib.decDigits x).length]'h' := rfl
    rw [e2, Option.some.inj e]
    rfl
  · rw [ByteArray.extract_mk]
    congr 2
    rw [Nat.add_sub_cancel_left]
    have e1 : ((txt l ++ [32]).drop (at0 l k)).take (Lib.decDigits x).length = ((txt l).drop (at0 l k)).take (Lib.decDigits x).length := by
      rw [List.drop_append_of_le_length (by omega), List.take_append_of_le_length (by rw [List.length_drop]; omega)]
    rw [← e1, hfl]
    unfold at0
    rw [List.drop_left, List.take_left]

/-! ### First occurrences -/
theorem firsts_pre (V : Nat → Nat) (k : Nat) : ∀ d, ∃ r, firsts V (k + d) = firsts V k ++ r
  | 0 => ⟨[], by simp⟩
  | d + 1 => by
    obtain ⟨r, hr⟩ := firsts_pre V k d
    show ∃ r, firsts V (k + d + 1) = _
    by_cases h : V (k + d) ∈ firsts V (k + d)
    · exact ⟨r, by rw [firsts_old h, hr]⟩
    · exact ⟨r ++ [V (k + d)], by rw [firsts_new h, hr, List.append_assoc]⟩
theorem firsts_nodup (V : Nat → Nat) : ∀ k, (firsts V k).Nodup
  | 0 => List.nodup_nil
  | k + 1 => by
    have h := firsts_nodup V k
    by_cases hm : V k ∈ firsts V k
    · rw [firsts_old hm]; exact h
    · rw [firsts_new hm]
      exact List.nodup_append.2 ⟨h, by simp, fun a ha b hb => by rw [List.mem_singleton.1 hb]; intro e; exact hm (e ▸ ha)⟩
theorem firsts_mem (V : Nat → Nat) (n k : Nat) (hk : k < n) : V k ∈ firsts V n := by
  obtain ⟨r, hr⟩ := firsts_pre V (k + 1) (n - (k + 1))
  rw [show k + 1 + (n - (k + 1)) = n by omega] at hr
  rw [hr]
  apply List.mem_append_left
  by_cases hm : V k ∈ firsts V k
  · rw [firsts_old hm]; exact hm
  · rw [firsts_new hm]; simp
theorem idx_old (V : Nat → Nat) (n k : Nat) (hk : k < n) (hm : V k ∈ firsts V k) : (firsts V n).idxOf (V k) < (firsts V k).length := by
  obtain ⟨r, hr⟩ := firsts_pre V k (n - k)
  rw [show k + (n - k) = n by omega] at hr
  rw [hr, List.idxOf_append, if_pos hm]
  exact List.idxOf_lt_length_of_mem hm
theorem idx_new (V : Nat → Nat) (n k : Nat) (hk : k < n) (hm : V k ∉ firsts V k) : (firsts V n).idxOf (V k) = (firsts V k).length := by
  obtain ⟨r, hr⟩ := firsts_pre V (k + 1) (n - (k + 1))
  rw [show k + 1 + (n - (k + 1)) = n by omega, firsts_new hm] at hr
  rw [hr, List.append_assoc, List.idxOf_append, if_neg hm]
  simp
theorem nodup_take {l : List Nat} (h : l.Nodup) (j : Nat) (hj : j < l.length) : l[j]'hj ∉ l.take j := by
  intro hm
  rw [← List.take_append_drop j l] at h
  exact (List.nodup_append.1 h).2.2 _ hm _ (by rw [List.drop_eq_getElem_cons hj]; exact List.mem_cons_self ..) rfl

end Go.Proofs.Qxb6603154aDoor
