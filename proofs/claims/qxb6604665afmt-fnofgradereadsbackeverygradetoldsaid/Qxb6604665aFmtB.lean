/-
  DERIVED. THE CLONES: zzCloneGrades, zzCloneBands.
-/
import Derived.Test.Qxb6604665aFmtA
namespace Go.Proofs.Qxb6604665aFmt
open Go.RowKit
set_option linter.unusedVariables false

theorem Hid.mk {p : Prop} (h : p) : Hid p := h

theorem Tryf.info41 : (Tryf.prog.info? 41).map (fun i => (i.zero, i.size, i.bytes)) = some (some (.agg #[.string ⟨#[]⟩, .int .i64 0, .int .i32 0]), 3, 32) := by kernel_rfl
theorem Tryf.info49 : (Tryf.prog.info? 49).map (fun i => (i.zero, i.size, i.bytes)) = some (some (.agg #[.int .i64 0, .int .i32 0, .int .i64 0, .int .i32 0]), 4, 32) := by kernel_rfl

/-- m cells are there from the head of block g on, none of it frozen. -/
def There (w : World) (g m : Nat) : Prop := (∀ j, j < m → ∃ v, w.cell? ⟨g, j, none⟩ = some v) ∧ ∀ j, w.frozen? ⟨g, j, none⟩ = false

theorem There.cell {w : World} {g m : Nat} (h : There w g m) (j : Nat) (hj : j < m) : ∃ v, w.cell? ⟨g, j, none⟩ = some v := h.1 j hj
theorem There.free {w : World} {g m : Nat} (h : There w g m) (j : Nat) : w.frozen? ⟨g, j, none⟩ = false := h.2 j

theorem There.setCell {w : World} {g m : Nat} (h : There w g m) (a : Addr) (v : Value) : There (w.setCell a v) g m := by
  refine ⟨fun j hj => ?_, fun j => by simpa using h.2 j⟩
  obtain ⟨u, hu⟩ := h.1 j hj
  by_cases e : a = ⟨g, j, none⟩
  · subst e; exact ⟨v, World.cell?_setCell_same w _ _ hu⟩
  · exact ⟨u, by rw [World.cell?_setCell_other w _ _ _ e]; exact hu⟩

/-- A row that 'make' has just laid. -/
theorem made_row {w1 : World} {base e size g n : Nat} {xs : List Value} (h : w1.ownsRow base e size (.slice (some ⟨g, 0, none⟩) n n) n xs) : There w1 g (n * size) := by
  refine ⟨fun j hj => ?_, fun j => h.frozenAt j⟩
  rw [h.cellAt j hj]
  have hl := h.1
  exact ⟨_, List.getElem?_eq_getElem (by rw [hl]; exact hj)⟩

theorem cell_set_same {w : World} {g m i : Nat} (h : There w g m) (hi : i < m) (v : Value) : (w.setCell ⟨g, i, none⟩ v).cell? ⟨g, i, none⟩ = some v := by
  obtain ⟨u, hu⟩ := h.1 i hi
  exact World.cell?_setCell_same w _ _ hu
theorem cell_set_other {w : World} {g i j : Nat} (h : i ≠ j) (v : Value) : (w.setCell ⟨g, i, none⟩ v).cell? ⟨g, j, none⟩ = w.cell? ⟨g, j, none⟩ :=
  World.cell?_setCell_other w _ _ _ (by intro e; cases e; exact h rfl)

/-- The first k grades lie in block g. -/
def Rows3 (w : World) (g k : Nat) (N : Nat → ByteArray) (C X : Nat → Int) : Prop :=
  ∀ j, j < k → w.cell? ⟨g, j * 3, none⟩ = some (.string (N j)) ∧ w.cell? ⟨g, j * 3 + 1, none⟩ = some (.int .i64 (C j)) ∧ w.cell? ⟨g, j * 3 + 2, none⟩ = some (.int .i32 (X j))

theorem Rows3.step {w : World} {g k n : Nat} {N : Nat → ByteArray} {C X : Nat → Int} (h : Rows3 w g k N C X) (ht : There w g (n * 3)) (hk : k < n) :
    Rows3 (((w.setCell ⟨g, k * 3, none⟩ (.string (N k))).setCell ⟨g, k * 3 + 1, none⟩ (.int .i64 (C k))).setCell ⟨g, k * 3 + 2, none⟩ (.int .i32 (X k))) g (k + 1) N C X := by
  intro j hj
  by_cases e : j = k
  · subst e
    refine ⟨?_, ?_, ?_⟩
    · rw [cell_set_other (by omega), cell_set_other (by omega), cell_set_same ht (by omega)]
    · rw [cell_set_other (by omega), cell_set_same (ht.setCell _ _) (by omega)]
    · rw [cell_set_same ((ht.setCell _ _).setCell _ _) (by omega)]
  · obtain ⟨h0, h1, h2⟩ := h j (by omega)
    refine ⟨?_, ?_, ?_⟩
    · rw [cell_set_other (by omega), cell_set_other (by omega), cell_set_other (by omega)]; exact h0
    · rw [cell_set_other (by omega), cell_set_other (by omega), cell_set_other (by omega)]; exact h1
    · rw [cell_set_other (by omega), cell_set_other (by omega), cell_set_other (by omega)]; exact h2

/-- The first k bands lie in block g. -/
def Rows4 (w : World) (g k : Nat) (F0 F1 F2 F3 : Nat → Int) : Prop :=
  ∀ j, j < k → w.cell? ⟨g, j * 4, none⟩ = some (.int .i64 (F0 j)) ∧ w.cell? ⟨g, j * 4 + 1, none⟩ = some (.int .i32 (F1 j)) ∧ w.cell? ⟨g, j * 4 + 2, none⟩ = some (.int .i64 (F2 j)) ∧ w.cell? ⟨g, j * 4 + 3, none⟩ = some (.int .i32 (F3 j))

theorem Rows4.step {w : World} {g k n : Nat} {F0 F1 F2 F3 : Nat → Int} (h : Rows4 w g k F0 F1 F2 F3) (ht : There w g (n * 4)) (hk : k < n) :
    Rows4 ((((w.setCell ⟨g, k * 4, none⟩ (.int .i64 (F0 k))).setCell ⟨g, k * 4 + 1, none⟩ (.int .i32 (F1 k))).setCell ⟨g, k * 4 + 2, none⟩ (.int .i64 (F2 k))).setCell ⟨g, k * 4 + 3, none⟩ (.int .i32 (F3 k))) g (k + 1) F0 F1 F2 F3 := by
  intro j hj
  by_cases e : j = k
  · subst e
    refine ⟨?_, ?_, ?_, ?_⟩
    · rw [cell_set_other (by omega), cell_set_other (by omega), cell_set_other (by omega), cell_set_same ht (by omega)]
    · rw [cell_set_other (by omega), cell_set_other (by omega), cell_set_same (ht.setCell _ _) (by omega)]
    · rw [cell_set_other (by omega), cell_set_same ((ht.setCell _ _).setCell _ _) (by omega)]
    · rw [cell_set_same (((ht.setCell _ _).setCell _ _).setCell _ _) (by omega)]
  · obtain ⟨h0, h1, h2, h3⟩ := h j (by omega)
    refine ⟨?_, ?_, ?_, ?_⟩
    · rw [cell_set_other (by omega), cell_set_other (by omega), cell_set_other (by omega), cell_set_other (by omega)]; exact h0
    · rw [cell_set_other (by omega), cell_set_other (by omega), cell_set_other (by omega), cell_set_other (by omega)]; exact h1
    · rw [cell_set_other (by omega), cell_set_other (by omega), cell_set_other (by omega), cell_set_other (by omega)]; exact h2
    · rw [cell_set_other (by omega), cell_set_other (by omega), cell_set_other (by omega), cell_set_other (by omega)]; exact h3

/-- WHAT IS KNOWN OF A SLICE OF BANDS THAT CAME IN. -/
def BdA (w : World) (a : Option Addr) (len : Nat) (F0 F1 F2 F3 : Nat → Int) : Prop :=
  len < 1 ∨ ∃ b off, a = some ⟨b, off, none⟩ ∧ b < w.heap.size ∧ ∀ i, i < len → w.cell? ⟨b, off + i * 4, none⟩ = some (.int .i64 (F0 i)) ∧ w.cell? ⟨b, off + i * 4 + 1, none⟩ = some (.int .i32 (F1 i)) ∧ w.cell? ⟨b, off + i * 4 + 2, none⟩ = some (.int .i64 (F2 i)) ∧ w.cell? ⟨b, off + i * 4 + 3, none⟩ = some (.int .i32 (F3 i))

set_option maxHeartbeats 400000 in
theorem cloneGrades_nil (w : World) : Calls Tryf.prog 7 #[.slice none 0 0] w (fun e w' => e = .returned (.slice none 0 0) ∧ w' = w) := by
  have hnil := fun (w : World) (a : Option Addr) (n c : Nat) => Lib.run_eql_slice_nil (P := Tryf.prog) w 22 41 a n c 0 0 Tryf.underlying22
  go_enter Tryf.func7, Tryf.ntmps7
  go_wp2
  go_ret
  exact ⟨rfl, rfl⟩

set_option maxHeartbeats 400000 in
theorem cloneBands_nil (w : World) : Calls Tryf.prog 8 #[.slice none 0 0] w (fun e w' => e = .returned (.slice none 0 0) ∧ w' = w) := by
  have hnil := fun (w : World) (a : Option Addr) (n c : Nat) => Lib.run_eql_slice_nil (P := Tryf.prog) w 23 49 a n c 0 0 Tryf.underlying23
  go_enter Tryf.func8, Tryf.ntmps8
  go_wp2
  go_ret
  exact ⟨rfl, rfl⟩

set_option maxRecDepth 100000 in
set_option maxHeartbeats 400000 in
theorem cloneGrades_some (x : Addr) (len0 cap0 : Nat) (N : Nat → ByteArray) (C X : Nat → Int) (w : World) (hg : GrA w (some x) len0 N C X) (h0 : (len0 : Int) ≤ 1048576) :
    Calls Tryf.prog 7 #[.slice (some x) len0 cap0] w (fun e w' => e = .returned (.slice (some ⟨w.heap.size, 0, none⟩) len0 len0) ∧ Rows3 w' w.heap.size len0 N C X ∧ w.heap.size < w'.heap.size ∧ Below w.heap.size w w') := by
  obtain ⟨i0, hi, hz0, hz1, hz2⟩ := info_parts Tryf.info41
  have hnil := fun (w : World) (a : Option Addr) (n c : Nat) => Lib.run_eql_slice_nil (P := Tryf.prog) w 22 41 a n c 0 0 Tryf.underlying22
  go_enter Tryf.func7, Tryf.ntmps7
  go_wp2_with (at_make; refine wpList_make_full _ rfl _ _ 22 rfl w.heap.size 41 i0 _ 3 Tryf.underlying22 hi hz0 hz1 .i64 .i64 _ _ len0 rfl rfl rfl rfl (by rw [hz2]; omega) (by unfold maxLen; omega) (Nat.le_refl _) ?_; intro w1 hown hgrow)
  have ht1 := made_row hown
  have hs1 : w.heap.size < w1.heap.size := (hown.lt _ rfl).2
  have hb1 : Below w.heap.size w w1 := (Below.refl _ _).grown hgrow (Nat.le_refl _) (fun k hk => by cases hk)
  clear hown hgrow hnil
  go_loopw [4] (fun i wr => ∃ k : Nat, k ≤ len0 ∧ i = .int .i64 k ∧ Rows3 wr w.heap.size k N C X ∧ There wr w.heap.size (len0 * 3) ∧ w.heap.size < wr.heap.size ∧ Below w.heap.size w wr) (fun i _ => len0 - (intOf i).toNat)
  case atStart => exact ⟨0, Nat.zero_le _, rfl, fun j hj => absurd hj (Nat.not_lt_zero _), ht1, hs1, hb1⟩
  case round =>
    clear ht1 hb1 hs1
    obtain ⟨k, hk, rfl, hdone, hth, hs, hbel⟩ := hrel
    by_cases hlt : k < len0
    · rcases hg with hg | ⟨b, off, hx, hb, hc⟩
      · exfalso; omega
      cases hx
      obtain ⟨u0, hu0⟩ := hth.cell (k * 3) (by omega)
      obtain ⟨u1, hu1⟩ := hth.cell (k * 3 + 1) (by omega)
      obtain ⟨u2, hu2⟩ := hth.cell (k * 3 + 2) (by omega)
      have hfz := hth.free
      obtain ⟨s0, s1, s2⟩ := hc k hlt
      rw [← hbel.cell (p := ⟨b, off + k * 3, none⟩) hb] at s0
      rw [← hbel.cell (p := ⟨b, off + k * 3 + 1, none⟩) hb] at s1
      rw [← hbel.cell (p := ⟨b, off + k * 3 + 2, none⟩) hb] at s2
      clear hc
      go_wp2
      go_roundw
      case rel => exact ⟨k + 1, by omega, by go_num, hdone.step hth hlt, ((hth.setCell _ _).setCell _ _).setCell _ _, by simpa using hs, ((hbel.setCell (Nat.le_refl _) _).setCell (Nat.le_refl _) _).setCell (Nat.le_refl _) _⟩
      case measure => simp [intOf]; omega
    · go_wp2
      go_ret
      have e : k = len0 := by omega
      subst e
      exact ⟨rfl, hdone, hs, hbel⟩

set_option maxRecDepth 100000 in
set_option maxHeartbeats 400000 in
theorem cloneBands_some (x : Addr) (len0 cap0 : Nat) (F0 F1 F2 F3 : Nat → Int) (w : World) (hg : BdA w (some x) len0 F0 F1 F2 F3) (h0 : (len0 : Int) ≤ 1048576) :
    Calls Tryf.prog 8 #[.slice (some x) len0 cap0] w (fun e w' => e = .returned (.slice (some ⟨w.heap.size, 0, none⟩) len0 len0) ∧ Rows4 w' w.heap.size len0 F0 F1 F2 F3 ∧ w.heap.size < w'.heap.size ∧ Below w.heap.size w w') := by
  obtain ⟨i0, hi, hz0, hz1, hz2⟩ := info_parts Tryf.info49
  have hnil := fun (w : World) (a : Option Addr) (n c : Nat) => Lib.run_eql_slice_nil (P := Tryf.prog) w 23 49 a n c 0 0 Tryf.underlying23
  go_enter Tryf.func8, Tryf.ntmps8
  go_wp2_with (at_make; refine wpList_make_full _ rfl _ _ 23 rfl w.heap.size 49 i0 _ 4 Tryf.underlying23 hi hz0 hz1 .i64 .i64 _ _ len0 rfl rfl rfl rfl (by rw [hz2]; omega) (by unfold maxLen; omega) (Nat.le_refl _) ?_; intro w1 hown hgrow)
  have ht1 := made_row hown
  have hs1 : w.heap.size < w1.heap.size := (hown.lt _ rfl).2
  have hb1 : Below w.heap.size w w1 := (Below.refl _ _).grown hgrow (Nat.le_refl _) (fun k hk => by cases hk)
  clear hown hgrow hnil
  go_loopw [4] (fun i wr => ∃ k : Nat, k ≤ len0 ∧ i = .int .i64 k ∧ Rows4 wr w.heap.size k F0 F1 F2 F3 ∧ There wr w.heap.size (len0 * 4) ∧ w.heap.size < wr.heap.size ∧ Below w.heap.size w wr) (fun i _ => len0 - (intOf i).toNat)
  case atStart => exact ⟨0, Nat.zero_le _, rfl, fun j hj => absurd hj (Nat.not_lt_zero _), ht1, hs1, hb1⟩
  case round =>
    clear ht1 hb1 hs1
    obtain ⟨k, hk, rfl, hdone, hth, hs, hbel⟩ := hrel
    by_cases hlt : k < len0
    · rcases hg with hg | ⟨b, off, hx, hb, hc⟩
      · exfalso; omega
      cases hx
      obtain ⟨u0, hu0⟩ := hth.cell (k * 4) (by omega)
      obtain ⟨u1, hu1⟩ := hth.cell (k * 4 + 1) (by omega)
      obtain ⟨u2, hu2⟩ := hth.cell (k * 4 + 2) (by omega)
      obtain ⟨u3, hu3⟩ := hth.cell (k * 4 + 3) (by omega)
      have hfz := hth.free
      obtain ⟨s0, s1, s2, s3⟩ := hc k hlt
      rw [← hbel.cell (p := ⟨b, off + k * 4, none⟩) hb] at s0
      rw [← hbel.cell (p := ⟨b, off + k * 4 + 1, none⟩) hb] at s1
      rw [← hbel.cell (p := ⟨b, off + k * 4 + 2, none⟩) hb] at s2
      rw [← hbel.cell (p := ⟨b, off + k * 4 + 3, none⟩) hb] at s3
      clear hc
      go_wp2
      go_roundw
      case rel => exact ⟨k + 1, by omega, by go_num, hdone.step hth hlt, (((hth.setCell _ _).setCell _ _).setCell _ _).setCell _ _, by simpa using hs, (((hbel.setCell (Nat.le_refl _) _).setCell (Nat.le_refl _) _).setCell (Nat.le_refl _) _).setCell (Nat.le_refl _) _⟩
      case measure => simp [intOf]; omega
    · go_wp2
      go_ret
      have e : k = len0 := by omega
      subst e
      exact ⟨rfl, hdone, hs, hbel⟩

end Go.Proofs.Qxb6604665aFmt
