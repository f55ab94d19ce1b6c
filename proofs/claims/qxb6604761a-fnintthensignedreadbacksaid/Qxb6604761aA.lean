/-
  DERIVED. BYTES IN MEMORY; zzBytes_.., zzClone, zzTrim, zzConcat, zzEq.
-/
import Derived.Test.Qxb6604761aRows
import Derived.WalkKit
import Derived.WalkSpells
import Derived.WalkLawsBesides
import Derived.RegionTactic
import Derived.BigQuiet
namespace Go.Proofs.Qxb6604761a
open Go.RowKit
set_option linter.unusedVariables false

theorem Hid.mk {p : Prop} (h : p) : Hid p := h
theorem Try.info5 : (Try.prog.info? 5).map (fun i => (i.zero, i.size, i.bytes)) = some (some (.int .u8 0), 1, 1) := by kernel_rfl

/-- m cells are there from the head of block g on, none of it frozen. -/
def There (w : World) (g m : Nat) : Prop := (∀ j, j < m → ∃ v, w.cell? ⟨g, j, none⟩ = some v) ∧ ∀ j, w.frozen? ⟨g, j, none⟩ = false
theorem There.cell {w : World} {g m : Nat} (h : There w g m) (j : Nat) (hj : j < m) : ∃ v, w.cell? ⟨g, j, none⟩ = some v := h.1 j hj
theorem There.free {w : World} {g m : Nat} (h : There w g m) (j : Nat) : w.frozen? ⟨g, j, none⟩ = false := h.2 j
theorem There.setCell {w : World} {g m : Nat} (h : There w g m) (a : Addr) (v : Value) : There (w.setCell a v) g m := by
  refine ⟨fun j hj => ?_, fun j => by simpa using h.2 j⟩
  obtain ⟨u, hu⟩ := h.1 j hj
  by_cases e : a = ⟨g, j, none⟩
  · subst e; exact ⟨v, World.cell?_setCell_same w _ _ hu⟩
  · exact ⟨u, by rw [World.cell?_setCell_other w _ _ _ e]; exact hu⟩
theorem made_row {w1 : World} {base e size g n cap : Nat} {xs : List Value} (h : w1.ownsRow base e size (.slice (some ⟨g, 0, none⟩) n cap) n xs) : There w1 g (n * size) := by
  refine ⟨fun j hj => ?_, fun j => h.frozenAt j⟩
  rw [h.cellAt j hj]
  have hl := h.1
  exact ⟨_, List.getElem?_eq_getElem (by rw [hl]; exact hj)⟩
theorem cell_set_same {w : World} {g m i : Nat} (h : There w g m) (hi : i < m) (v : Value) : (w.setCell ⟨g, i, none⟩ v).cell? ⟨g, i, none⟩ = some v := by
  obtain ⟨u, hu⟩ := h.1 i hi
  exact World.cell?_setCell_same w _ _ hu
theorem cell_set_other {w : World} {g i j : Nat} (h : i ≠ j) (v : Value) : (w.setCell ⟨g, i, none⟩ v).cell? ⟨g, j, none⟩ = w.cell? ⟨g, j, none⟩ :=
  World.cell?_setCell_other w _ _ _ (by intro e; cases e; exact h rfl)

/-- WHAT IS KNOWN OF A SLICE OF BYTES: if it has an element, the bytes f 0, f 1, .. lie at its address. -/
def B8 (w : World) (a : Option Addr) (len : Nat) (f : Nat → Nat) : Prop :=
  len < 1 ∨ ∃ b off, a = some ⟨b, off, none⟩ ∧ b < w.heap.size ∧ ∀ i, i < len → w.cell? ⟨b, off + i, none⟩ = some (.int .u8 ((f i : Nat) : Int))

/-- The first k bytes lie at the head of block g. -/
def Row (w : World) (g k : Nat) (f : Nat → Nat) : Prop := ∀ j, j < k → w.cell? ⟨g, j, none⟩ = some (.int .u8 ((f j : Nat) : Int))

theorem Row.zero (w : World) (g : Nat) (f : Nat → Nat) : Row w g 0 f := fun j hj => absurd hj (Nat.not_lt_zero _)
theorem Row.step {w : World} {g k n : Nat} {f : Nat → Nat} (h : Row w g k f) (ht : There w g n) (hk : k < n) : Row (w.setCell ⟨g, k, none⟩ (.int .u8 ((f k : Nat) : Int))) g (k + 1) f := by
  intro j hj
  by_cases e : j = k
  · subst e; exact cell_set_same ht hk _
  · rw [cell_set_other (by omega)]; exact h j (by omega)
theorem Row.b8 {w : World} {g k : Nat} {f : Nat → Nat} (h : Row w g k f) (hg : g < w.heap.size) : B8 w (some ⟨g, 0, none⟩) k f :=
  .inr ⟨g, 0, rfl, hg, fun i hi => by rw [Nat.zero_add]; exact h i hi⟩
theorem Row.below {w w' : World} {g k B : Nat} {f : Nat → Nat} (h : Row w g k f) (hb : Below B w w') (hg : g < B) : Row w' g k f := fun j hj => (hb.cell (p := ⟨g, j, none⟩) hg).trans (h j hj)
theorem B8.below {w w' : World} {a : Option Addr} {len : Nat} {f : Nat → Nat} (h : B8 w a len f) (hb : Below w.heap.size w w') : B8 w' a len f := by
  rcases h with h | ⟨b, off, h1, h2, h3⟩
  · exact .inl h
  · exact .inr ⟨b, off, h1, Nat.lt_of_lt_of_le h2 hb.size, fun i hi => (hb.cell (p := ⟨b, off + i, none⟩) h2).trans (h3 i hi)⟩

/-- A NEW SLICE OF BYTES: n bytes f in block w.heap.size, capacity n; nothing old has turned. -/
def NewSaid (n : Nat) (f : Nat → Nat) (w : World) (e : Ending) (w' : World) : Prop :=
  e = .returned (.slice (some ⟨w.heap.size, 0, none⟩) n n) ∧ Row w' w.heap.size n f ∧ There w' w.heap.size n ∧ w.heap.size < w'.heap.size ∧ Below w.heap.size w w'

set_option maxHeartbeats 400000 in
theorem bytes12 (a0 : Option Addr) (len0 cap0 : Nat) (neg : Bool) (a2 : Option Addr) (len2 cap2 : Nat) (w : World) (h0 : len0 ≤ maxLen) (h2 : len2 ≤ maxLen) :
    Calls Try.prog 12 #[.slice a0 len0 cap0, .bool neg, .slice a2 len2 cap2] w (fun e w' => (∃ r : Bool, e = .returned (.bool r)) ∧ w' = w) := by
  unfold maxLen at h0 h2
  go_enter Try.func12, Try.ntmps12
  go_wp2
  all_goals
    go_ret
    exact ⟨⟨_, rfl⟩, rfl⟩

set_option maxHeartbeats 400000 in
theorem clone_nil (w : World) : Calls Try.prog 7 #[.slice none 0 0] w (fun e w' => e = .returned (.slice none 0 0) ∧ w' = w) := by
  have hnil := fun (w : World) (a : Option Addr) (n c : Nat) => Lib.run_eql_slice_nil (P := Try.prog) w 22 5 a n c 0 0 Try.underlying22
  go_enter Try.func7, Try.ntmps7
  go_wp2
  go_ret
  exact ⟨rfl, rfl⟩

set_option maxRecDepth 100000 in
set_option maxHeartbeats 400000 in
theorem clone_some (x : Addr) (n cap0 : Nat) (f : Nat → Nat) (w : World) (hg : B8 w (some x) n f) (h0 : (n : Int) ≤ 1048576) :
    Calls Try.prog 7 #[.slice (some x) n cap0] w (NewSaid n f w) := by
  obtain ⟨i0, hi, hz0, hz1, hz2⟩ := info_parts Try.info5
  have hnil := fun (w : World) (a : Option Addr) (n c : Nat) => Lib.run_eql_slice_nil (P := Try.prog) w 22 5 a n c 0 0 Try.underlying22
  go_enter Try.func7, Try.ntmps7
  go_wp2_with (at_make; refine wpList_make_full _ rfl _ _ 22 rfl w.heap.size 5 i0 _ 1 Try.underlying22 hi hz0 hz1 .i64 .i64 _ _ n rfl rfl rfl rfl (by rw [hz2]; omega) (by unfold maxLen; omega) (Nat.le_refl _) ?_; intro w1 hown hgrow)
  have ht1 := made_row hown
  rw [Nat.mul_one] at ht1
  have hs1 : w.heap.size < w1.heap.size := (hown.lt _ rfl).2
  have hb1 : Below w.heap.size w w1 := (Below.refl _ _).grown hgrow (Nat.le_refl _) (fun k hk => by cases hk)
  clear hown hgrow hnil
  go_loopw [4] (fun i wr => ∃ k : Nat, k ≤ n ∧ i = .int .i64 k ∧ Row wr w.heap.size k f ∧ There wr w.heap.size n ∧ w.heap.size < wr.heap.size ∧ Below w.heap.size w wr) (fun i _ => n - (intOf i).toNat)
  case atStart => exact ⟨0, Nat.zero_le _, rfl, Row.zero _ _ _, ht1, hs1, hb1⟩
  case round =>
    clear ht1 hb1 hs1
    obtain ⟨k, hk, rfl, hdone, hth, hs, hbel⟩ := hrel
    by_cases hlt : k < n
    · rcases hg with hg | ⟨b, off, hx, hb, hc⟩
      · exfalso; omega
      cases hx
      obtain ⟨u0, hu0⟩ := hth.cell k hlt
      have hfz := hth.free
      have s0 := hc k hlt
      rw [← hbel.cell (p := ⟨b, off + k, none⟩) hb] at s0
      clear hc
      go_wp2
      go_roundw
      case rel => exact ⟨k + 1, by omega, by go_num, hdone.step hth hlt, hth.setCell _ _, by simpa using hs, hbel.setCell (Nat.le_refl _) _⟩
      case measure => simp [intOf]; omega
    · go_wp2
      go_ret
      obtain rfl : k = n := by omega
      exact ⟨rfl, hdone, hth, hs, hbel⟩

set_option maxRecDepth 100000 in
set_option maxHeartbeats 400000 in
theorem eq_true (a0 a1 : Option Addr) (n c0 c1 : Nat) (f g : Nat → Nat) (w : World) (h0 : B8 w a0 n f) (h1 : B8 w a1 n g) (hn : (n : Int) ≤ 4194304) (hfg : ∀ i, i < n → f i = g i) :
    Calls Try.prog 17 #[.slice a0 n c0, .slice a1 n c1] w (fun e w' => e = .returned (.bool true) ∧ Below w.heap.size w w') := by
  have HF := Hid.mk hfg
  clear hfg
  go_enter Try.func17, Try.ntmps17
  go_wp2
  go_loopw [5] (fun i wr => ∃ k : Nat, k ≤ n ∧ i = .int .i64 k ∧ Below w.heap.size w wr) (fun i _ => n - (intOf i).toNat)
  case atStart => exact ⟨0, Nat.zero_le _, rfl, Below.refl _ _⟩
  case round =>
    obtain ⟨k, hk, rfl, hbel⟩ := hrel
    by_cases hlt : k < n
    · rcases h0 with h0 | ⟨b0, o0, rfl, hb0, hc0⟩
      · exfalso; omega
      rcases h1 with h1 | ⟨b1, o1, rfl, hb1, hc1⟩
      · exfalso; omega
      have s0 := hc0 k hlt
      have s1 := hc1 k hlt
      rw [← hbel.cell (p := ⟨b0, o0 + k, none⟩) hb0] at s0
      rw [← hbel.cell (p := ⟨b1, o1 + k, none⟩) hb1] at s1
      rw [← HF.out k hlt] at s1
      have hki : (k : Int) < (n : Int) := by omega
      have hki0 : (0 : Int) ≤ (k : Int) := by omega
      clear hc0 hc1
      go_wp2_with fail
      go_quiet (fail)
      go_wp2
      go_roundw
      case rel => first | exact ⟨k + 1, by omega, by go_num, below_drewN hbel _⟩ | ((repeat apply Exists.intro); exact ⟨⟨k + 1, by omega, by go_num, below_drewN hbel _⟩, rfl⟩)
      case measure => simp [intOf]; omega
    · go_wp2
      go_ret
      exact ⟨rfl, hbel⟩

end Go.Proofs.Qxb6604761a
