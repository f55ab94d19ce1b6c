/-
  DERIVED. INTEGERS IN MEMORY; zzBytes_.., numberList, ZZNumberList.
-/
import Derived.Test.Qxb6602681aDoorRows
import Derived.Test.Qxb6602681aDoorShelf
import Derived.Lib.ItoaLen
import Derived.Lib.AppendIntMem
import Derived.Lib.Join
import Derived.WalkKit
import Derived.WalkSpells
import Derived.WalkLawsBesides
import Derived.RegionTactic
import Derived.BigQuiet
namespace Go.Proofs.Qxb6602681aDoor
open Go.RowKit
set_option linter.unusedVariables false

theorem Hid.mk {p : Prop} (h : p) : Hid p := h
theorem int_val {k : IntKind} {a b : Int} (h : a = b) : Value.int k a = Value.int k b := by rw [h]
theorem Tryd.info9 : (Tryd.prog.info? 9).map (fun i => (i.zero, i.size, i.bytes)) = some (some (.string ⟨#[]⟩), 1, 16) := by kernel_rfl
theorem Tryd.info3 : (Tryd.prog.info? 3).map (fun i => (i.zero, i.size, i.bytes)) = some (some (.int .i64 0), 1, 8) := by kernel_rfl

/-- The table of the powers of ten. -/
abbrev Tab (w : World) : Prop := Lib.TabIs Tryd.prog w "internal/strconv.uint64pow10" .u64 Lib.pow10Tab

/-- m cells are there from the head of block g on, none of it frozen. -/
def There (w : World) (g m : Nat) : Prop := (∀ j, j < m → ∃ v, w.cell? ⟨g, j, none⟩ = some v) ∧ ∀ j, w.frozen? ⟨g, j, none⟩ = false
theorem There.setCell {w : World} {g m : Nat} (h : There w g m) (a : Addr) (v : Value) : There (w.setCell a v) g m := by
  refine ⟨fun j hj => ?_, fun j => by simpa using h.2 j⟩
  obtain ⟨u, hu⟩ := h.1 j hj
  by_cases e : a = ⟨g, j, none⟩
  · subst e; exact ⟨v, World.cell?_setCell_same w _ _ hu⟩
  · exact ⟨u, by rw [World.cell?_setCell_other w _ _ _ e]; exact hu⟩
theorem There.below {w w' : World} {g m B : Nat} (h : There w g m) (hb : Below B w w') (hg : g < B) : There w' g m :=
  ⟨fun j hj => by obtain ⟨v, hv⟩ := h.1 j hj; exact ⟨v, (hb.cell (p := ⟨g, j, none⟩) hg).trans hv⟩, fun j => (hb.frozen (p := ⟨g, j, none⟩) hg).trans (h.2 j)⟩
theorem made_row {w1 : World} {base e size g n cap : Nat} {xs : List Value} (h : w1.ownsRow base e size (.slice (some ⟨g, 0, none⟩) n cap) n xs) : There w1 g (n * size) := by
  refine ⟨fun j hj => ?_, fun j => h.frozenAt j⟩
  rw [h.cellAt j hj]
  have hl := h.1
  exact ⟨_, List.getElem?_eq_getElem (by rw [hl]; exact hj)⟩
theorem cell_set_same {w : World} {g m i : Nat} (h : There w g m) (hi : i < m) (v : Value) : (w.setCell ⟨g, i, none⟩ v).cell? ⟨g, i, none⟩ = some v := by
  obtain ⟨u, hu⟩ := h.1 i hi
  exact World.cell?_setCell_same w _ _ hu
theorem cell_set_other {w : World} {g i j : Nat} (h : i ≠ j) (v : Value) : (w.setCell ⟨g, i, none⟩ v).cell? ⟨g, j, none⟩ = w.cell? ⟨g, j, none⟩ :=
  World.cell?_setCell_other w _ _ _ (by intro e; cases e; exact h rfl)

/-- WHAT IS KNOWN OF A SLICE OF INTS: if it has an element, the numbers V 0, V 1, .. lie at its address. -/
def Ints (w : World) (a : Option Addr) (len : Nat) (V : Nat → Int) : Prop :=
  len < 1 ∨ ∃ b off, a = some ⟨b, off, none⟩ ∧ b < w.heap.size ∧ ∀ i, i < len → w.cell? ⟨b, off + i, none⟩ = some (.int .i64 (V i))
theorem Ints.below {w w' : World} {a : Option Addr} {len : Nat} {V : Nat → Int} (h : Ints w a len V) (hb : Below w.heap.size w w') : Ints w' a len V := by
  rcases h with h | ⟨b, off, h1, h2, h3⟩
  · exact .inl h
  · exact .inr ⟨b, off, h1, Nat.lt_of_lt_of_le h2 hb.size, fun i hi => (hb.cell (p := ⟨b, off + i, none⟩) h2).trans (h3 i hi)⟩

/-- The first k strings lie at the head of block g. -/
def SRow (w : World) (g k : Nat) (S : Nat → List UInt8) : Prop := ∀ j, j < k → w.cell? ⟨g, j, none⟩ = some (.string ⟨(S j).toArray⟩)
theorem SRow.step {w : World} {g k n : Nat} {S : Nat → List UInt8} (h : SRow w g k S) (ht : There w g n) (hk : k < n) : SRow (w.setCell ⟨g, k, none⟩ (.string ⟨(S k).toArray⟩)) g (k + 1) S := by
  intro j hj
  by_cases e : j = k
  · subst e; exact cell_set_same ht hk _
  · rw [cell_set_other (by omega)]; exact h j (by omega)
theorem SRow.below {w w' : World} {g k B : Nat} {S : Nat → List UInt8} (h : SRow w g k S) (hb : Below B w w') (hg : g < B) : SRow w' g k S := fun j hj => (hb.cell (p := ⟨g, j, none⟩) hg).trans (h j hj)

theorem gTab : Tryd.prog.globalNamed "internal/strconv.uint64pow10" = some 0 := by kernel_rfl

/-- THE TEXT: the numbers' decimals, commas between. -/
def text (V : Nat → Int) (n : Nat) : List UInt8 := Lib.join ((List.range n).map fun j => Lib.itoa (V j)) [44]

theorem Tab.size {w : World} (h : Tab w) : 0 < w.heap.size := by
  unfold Tab Lib.TabIs World.var? at h
  rw [gTab] at h
  by_cases h0 : 0 < w.heap.size
  · exact h0
  · simp [Array.getElem?_eq_none (show w.heap.size ≤ 0 by omega)] at h
theorem Tab.below {w w' : World} {B : Nat} (h : Tab w) (hb : Below B w w') (hB : 0 < B) : Tab w' := by
  unfold Tab Lib.TabIs World.var? at h ⊢
  rw [gTab] at h ⊢
  have := hb.block 0 hB
  simp only [Option.bind_some] at h ⊢
  rw [this]
  exact h

theorem joinTail_length_le (sep : List UInt8) (B : Nat) : ∀ (r : List (List UInt8)), (∀ x ∈ r, x.length ≤ B) → (Lib.joinTail sep r).length ≤ (sep.length + B) * r.length
  | [], _ => by simp [Lib.joinTail]
  | x :: r, h => by
    have h1 := joinTail_length_le sep B r (fun y hy => h y (List.mem_cons_of_mem _ hy))
    have h2 := h x (List.mem_cons_self ..)
    simp only [Lib.joinTail, List.map_cons, List.flatten_cons, List.length_append, List.length_cons] at h1 ⊢
    rw [Nat.mul_add, Nat.mul_one]
    omega
theorem text_length (V : Nat → Int) (n : Nat) (hV : ∀ j, j < n → -9223372036854775808 ≤ V j ∧ V j ≤ 9223372036854775807) : (text V n).length ≤ 22 * n := by
  unfold text
  have hm : ∀ x ∈ (List.range n).map (fun j => Lib.itoa (V j)), x.length ≤ 21 := fun x hx => by
    obtain ⟨j, hj, rfl⟩ := List.mem_map.1 hx
    exact Lib.itoa_length_le _ (hV j (List.mem_range.1 hj)).1 (hV j (List.mem_range.1 hj)).2
  generalize hl : (List.range n).map (fun j => Lib.itoa (V j)) = l at hm
  have hll : l.length = n := by rw [← hl]; simp
  cases l with
  | nil => simp [Lib.join_nil]
  | cons x r =>
    rw [Lib.join_cons, List.length_append]
    have h1 := joinTail_length_le [44] 21 r (fun y hy => hm y (List.mem_cons_of_mem _ hy))
    have h2 := hm x (List.mem_cons_self ..)
    simp at hll h1
    omega

set_option maxRecDepth 100000 in
set_option maxHeartbeats 400000 in
theorem list_none (a : Option Addr) (c : Nat) (w : World) : Calls Tryd.prog 11 #[.slice a 0 c] w (fun e w' => e = .returned (.string ⟨#[110, 111, 110, 101]⟩) ∧ w' = w) := by
  go_enter Tryd.func11, Tryd.ntmps11
  go_wp2
  go_ret
  exact ⟨rfl, rfl⟩

set_option maxRecDepth 100000 in
set_option maxHeartbeats 1000000 in
theorem list_some (a : Option Addr) (n c : Nat) (V : Nat → Int) (w : World) (hI : Ints w a n V) (hn0 : 0 < n) (hn : n ≤ 32768) (hV : ∀ j, j < n → -9223372036854775808 ≤ V j ∧ V j ≤ 9223372036854775807) (hT : Tab w) :
    Calls Tryd.prog 11 #[.slice a n c] w (fun e w' => e = .returned (.string ⟨(text V n).toArray⟩) ∧ Below w.heap.size w w') := by
  obtain ⟨i0, hi, hz0, hz1, hz2⟩ := info_parts Tryd.info9
  have h0s := hT.size
  have HT := Hid.mk hT
  have HV := Hid.mk hV
  have hne : ((n : Int) == 0) = false := by simp; omega
  rcases hI with hI | ⟨b, off, rfl, hb, hcell⟩
  · exfalso; omega
  have HC := Hid.mk hcell
  clear hT hV hcell
  go_enter Tryd.func11, Tryd.ntmps11
  go_wp2_with (at_make; refine wpList_make_full _ rfl _ _ 30 rfl w.heap.size 9 i0 _ 1 Tryd.underlying30 hi hz0 hz1 .i64 .i64 _ _ n rfl rfl (by omega) (by omega) (by rw [hz2]; omega) (by unfold maxLen; omega) (Nat.le_refl _) ?_; intro w1 hown hgrow)
  have ht1 := made_row hown
  rw [Nat.mul_one] at ht1
  have hs1 : w.heap.size < w1.heap.size := (hown.lt _ rfl).2
  have hb1 : Below w.heap.size w w1 := (Below.refl _ _).grown hgrow (Nat.le_refl _) (fun k hk => by cases hk)
  clear hown hgrow
  go_wp2_with fail
  go_loopw [14] (fun i wr => ∃ k : Nat, k ≤ n ∧ i = .int .i64 k ∧ SRow wr w.heap.size k (fun j => Lib.itoa (V j)) ∧ There wr w.heap.size n ∧ w.heap.size < wr.heap.size ∧ Below w.heap.size w wr) (fun i _ => n - (intOf i).toNat)
  case atStart => exact ⟨0, Nat.zero_le _, rfl, fun j hj => absurd hj (Nat.not_lt_zero _), ht1, hs1, hb1⟩
  case round =>
    clear ht1 hb1 hs1
    obtain ⟨k, hk, rfl, hrow, hth, hs, hbel⟩ := hrel
    by_cases hlt : k < n
    · have s0 := (hbel.cell (p := ⟨b, off + k, none⟩) hb).trans (HC.out k hlt)
      have k1 : (0 : Int) ≤ (k : Int) := by omega
      have k2 : (k : Int) < (n : Int) := by omega
      have HR := Hid.mk hrow
      have HTh := Hid.mk hth
      obtain ⟨hv0, hv1⟩ := HV.out k hlt
      clear hrow hth
      go_wp2_with fail
      refine (Tryd.strconv_Itoa (V k) hv0 hv1 wr (HT.out.below hbel h0s)).mono ?_
      rintro e w2 ⟨rfl, kd, os, hw2⟩
      have hb2 : Below wr.heap.size wr w2 := by rw [hw2]; exact Lib.below_grow _ _ (Nat.le_refl _) _ _
      have ht2 := HTh.out.below hb2 hs
      have hr2 := (HR.out.below hb2 hs).step ht2 hlt
      obtain ⟨u0, hu0⟩ := ht2.1 k hlt
      have z0 := ht2.2
      have HR2 := Hid.mk hr2
      have HT2 := Hid.mk ht2
      have hs2 : w.heap.size < w2.heap.size := Nat.lt_of_lt_of_le hs hb2.size
      have hbel2 : Below w.heap.size w w2 := hbel.trans (hb2.mono hbel.size)
      clear hw2 hr2 ht2 hb2 s0
      go_wp2
      go_roundw
      case rel => exact ⟨k + 1, by omega, by go_num, HR2.out, HT2.out.setCell _ _, by simpa using hs2, hbel2.setCell (Nat.le_refl _) _⟩
      case measure => simp [intOf] <;> omega
    · obtain rfl : k = n := by omega
      have hlen := text_length V k HV.out
      have HLen := Hid.mk hlen
      clear hlen
      have hJ := Hid.mk (Tryd.strings_Join w.heap.size 0 k ((List.range k).map fun j => (⟨(Lib.itoa (V j)).toArray⟩ : ByteArray)) ⟨#[44]⟩ wr
        (fun j x hx => by
          obtain ⟨h1, h2⟩ := List.getElem?_eq_some_iff.1 hx
          have hjk : j < k := by simpa using h1
          have e := hrow j hjk
          rw [Nat.zero_add, e, ← h2]
          simp) hs (by simp; omega) (by simp) (by
          have e : (((List.range k).map fun j => (⟨(Lib.itoa (V j)).toArray⟩ : ByteArray)).map (·.data.toList)) = (List.range k).map fun j => Lib.itoa (V j) := by simp
          rw [e]
          have := HLen.out
          unfold text at this
          show (Lib.join ((List.range k).map fun j => Lib.itoa (V j)) [44]).length ≤ _
          omega))
      have e2 : (((List.range k).map fun j => (⟨(Lib.itoa (V j)).toArray⟩ : ByteArray)).map (·.data.toList)) = (List.range k).map fun j => Lib.itoa (V j) := by simp
      have e3 : (⟨#[44]⟩ : ByteArray).data.toList = [44] := rfl
      rw [e2, e3] at hJ
      rw [show ((List.range k).map fun j => (⟨(Lib.itoa (V j)).toArray⟩ : ByteArray)).length = k by simp] at hJ
      clear e2 e3 hrow hth
      go_wp2_with fail
      refine hJ.out.mono ?_
      rintro e w2 ⟨rfl, hb2⟩
      go_wp2
      go_ret
      exact ⟨rfl, hbel.trans (hb2.mono hbel.size)⟩

theorem zzlist_none (a : Option Addr) (c : Nat) (w : World) : Calls Tryd.prog 6 #[.slice a 0 c] w (fun e w' => e = .returned (.string ⟨#[110, 111, 110, 101]⟩) ∧ w' = w) := by
  go_enter Tryd.func6, Tryd.ntmps6
  go_wp2_with fail
  refine (list_none a c w).mono ?_
  rintro e w1 ⟨rfl, hw⟩
  obtain rfl := hw.symm
  go_wp2
  go_ret
  exact ⟨rfl, rfl⟩
theorem zzlist_some (a : Option Addr) (n c : Nat) (V : Nat → Int) (w : World) (hI : Ints w a n V) (hn0 : 0 < n) (hn : n ≤ 32768) (hV : ∀ j, j < n → -9223372036854775808 ≤ V j ∧ V j ≤ 9223372036854775807) (hT : Tab w) :
    Calls Tryd.prog 6 #[.slice a n c] w (fun e w' => e = .returned (.string ⟨(text V n).toArray⟩) ∧ Below w.heap.size w w') := by
  have H := Hid.mk (list_some a n c V w hI hn0 hn hV hT)
  generalize text V n = tx at H ⊢
  clear hI hV hT
  go_enter Tryd.func6, Tryd.ntmps6
  go_wp2_with fail
  refine H.out.mono ?_
  rintro e w1 ⟨rfl, hb⟩
  go_wp2
  go_ret
  exact ⟨rfl, hb⟩

end Go.Proofs.Qxb6602681aDoor
