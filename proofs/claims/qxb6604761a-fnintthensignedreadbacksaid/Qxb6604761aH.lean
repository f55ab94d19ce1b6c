/-
  DERIVED. math/big's SetBytes, Set, Neg; zzBig.
-/
import Derived.Test.Qxb6604761aG
import Derived.Lib.Builder
namespace Go.Proofs.Qxb6604761a
open Go.RowKit
set_option linter.unusedVariables false

theorem Try.info50 : (Try.prog.info? 50).map (fun i => (i.zero, i.size, i.bytes)) = some (some (.agg #[.bool false, .slice none 0 0]), 2, 32) := by kernel_rfl

/-- The words of the number, where there are any. -/
def Words (B : Nat) (w : World) (ga : Option Addr) (K : Nat) (W : Nat → Nat) : Prop := 0 < K → ∃ g, ga = some ⟨g, 0, none⟩ ∧ B ≤ g ∧ g < w.heap.size ∧ RowW w g K W

theorem IsInt.setAbs {w : World} {p K c K' c' : Nat} {neg : Bool} {ga ga' : Option Addr} (h : IsInt w p neg ga K c) : IsInt (w.setCell ⟨p, 1, none⟩ (.slice ga' K' c')) p neg ga' K' c' :=
  ⟨by simpa using h.lt, by rw [cell_set_other (by omega)]; exact h.sgn, World.cell?_setCell_same _ _ _ h.abs, fun j => by simpa using h.free j⟩
theorem IsInt.setSgn {w : World} {p K c : Nat} {neg : Bool} (neg' : Bool) {ga : Option Addr} (h : IsInt w p neg ga K c) : IsInt (w.setCell ⟨p, 0, none⟩ (.bool neg')) p neg' ga K c :=
  ⟨by simpa using h.lt, World.cell?_setCell_same _ _ _ h.sgn, by rw [cell_set_other (by omega)]; exact h.abs, fun j => by simpa using h.free j⟩
theorem RowW.aside {w : World} {g K p o : Nat} {W : Nat → Nat} {v : Value} (h : RowW w g K W) (hne : g ≠ p) : RowW (w.setCell ⟨p, o, none⟩ v) g K W := fun j hj => by
  rw [World.cell?_setCell_other _ _ _ _ (by intro e; cases e; exact hne rfl)]; exact h j hj
theorem Words.aside {B : Nat} {w : World} {ga : Option Addr} {K p o : Nat} {W : Nat → Nat} {v : Value} (h : Words B w ga K W) (hp : p < B) : Words B (w.setCell ⟨p, o, none⟩ v) ga K W := fun hK => by
  obtain ⟨g, h1, h2, h3, h4⟩ := h hK
  exact ⟨g, h1, h2, by simpa using h3, h4.aside (by omega)⟩

/-- WHAT SetBytes IS GOOD FOR. -/
def IntSaid (f : Nat → Nat) (n K p : Nat) (neg : Bool) (w : World) (e : Ending) (w' : World) : Prop :=
  e = .returned (.pointer (some ⟨p, 0, none⟩)) ∧ (∃ ga c, IsInt w' p neg ga K c ∧ Words (p + 1) w' ga K (wd f n)) ∧ Below p w w'

set_option maxRecDepth 100000 in
set_option maxHeartbeats 400000 in
theorem SetBytes_any (a : Option Addr) (p n cap L : Nat) (f : Nat → Nat) (w : World) (hI : IsInt w p false none 0 0) (hg : B8 w a n f) (hn : (n : Int) ≤ 1048576) (hcap : n ≤ cap) (hcap2 : cap ≤ maxLen) (hf : ∀ i, i < n → f i < 256) (hL : Len f n L) :
    Calls Try.prog 28 #[.pointer (some ⟨p, 0, none⟩), .slice a n cap] w (IntSaid f n ((L + 7) / 8) p false w) := by
  have s1 := hI.abs
  have HI := Hid.mk hI
  have HG := Hid.mk hg
  have HF := Hid.mk hf
  have HL := Hid.mk hL
  have hlt := hI.lt
  generalize hK : (L + 7) / 8 = K
  have HK := Hid.mk hK
  clear hI hg hf hL hK
  go_enter Try.func28, Try.ntmps28
  go_wp2_with fail
  refine (setBytes_any a n cap L f w HG.out hn hcap hcap2 HF.out HL.out).mono ?_
  rintro e w1 ⟨ga, c, rfl, hK, hb⟩
  rw [HK.out] at hK ⊢
  have hI1 := HI.out.below hb hlt
  have HK1 := Hid.mk hK
  have u1 := hI1.abs
  have z1 := hI1.free
  have hlt1 := hI1.lt
  have hI2 := hI1.setAbs (ga' := ga) (K' := K) (c' := c)
  have u2 := hI2.sgn
  have HI2 := Hid.mk hI2
  clear hI1 hI2 hK s1
  go_wp2
  go_ret
  refine ⟨rfl, ⟨ga, c, HI2.out.setSgn false, ?_⟩, ((hb.mono (Nat.le_of_lt hlt)).setCell (Nat.le_refl _) _).setCell (Nat.le_refl _) _⟩
  have hw : Words (p + 1) w1 ga K (wd f n) := fun h => by
    obtain ⟨g, h1, h2, h3, h4⟩ := HK1.out h
    exact ⟨g, h1, by omega, h3, h4⟩
  exact (hw.aside (by omega)).aside (by omega)

set_option maxRecDepth 100000 in
set_option maxHeartbeats 400000 in
theorem Set_self (p : Nat) (w : World) : Calls Try.prog 40 #[.pointer (some ⟨p, 0, none⟩), .pointer (some ⟨p, 0, none⟩)] w (fun e w' => (∃ v, e = .returned v) ∧ w' = w) := by
  obtain ⟨i0, hi, _, _, _⟩ := info_parts Try.info50
  have hnq := fun (w : World) => Lib.run_neq_ptr_same (P := Try.prog) w (⟨p, 0, none⟩ : Addr) Try.underlying42 hi
  go_enter Try.func40, Try.ntmps40
  go_wp2
  go_ret
  exact ⟨⟨_, rfl⟩, rfl⟩

set_option maxRecDepth 100000 in
set_option maxHeartbeats 400000 in
theorem Neg_self (p K c n : Nat) (f : Nat → Nat) (ga : Option Addr) (w0 w : World) (hI : IsInt w p false ga K c) (hW : Words (p + 1) w ga K (wd f n)) (hK : (K : Int) ≤ 1048576) (hb : Below p w0 w) :
    Calls Try.prog 29 #[.pointer (some ⟨p, 0, none⟩), .pointer (some ⟨p, 0, none⟩)] w (IntSaid f n K p (decide (0 < K)) w0) := by
  have s0 := hI.sgn
  have s1 := hI.abs
  have z1 := hI.free
  have HI := Hid.mk hI
  have HW := Hid.mk hW
  clear hI hW
  rcases Nat.eq_zero_or_pos K with rfl | hp
  · go_enter Try.func29, Try.ntmps29
    go_wp2_with (go_at_call 40; refine (Set_self _ _).mono ?_; rintro e w' ⟨⟨v, rfl⟩, rfl⟩)
    go_ret
    exact ⟨rfl, ⟨ga, c, HI.out.setSgn _, HW.out.aside (by omega)⟩, hb.setCell (Nat.le_refl _) _⟩
  · have hpI : (0 : Int) < (K : Int) := by omega
    have hd : decide (0 < K) = true := by simpa using hp
    have HD := Hid.mk hd
    clear hd
    go_enter Try.func29, Try.ntmps29
    go_wp2_with (go_at_call 40; refine (Set_self _ _).mono ?_; rintro e w' ⟨⟨v, rfl⟩, rfl⟩)
    go_ret
    rw [HD.out]
    exact ⟨rfl, ⟨ga, c, HI.out.setSgn _, HW.out.aside (by omega)⟩, hb.setCell (Nat.le_refl _) _⟩

set_option maxRecDepth 100000 in
set_option maxHeartbeats 400000 in
theorem big_any (neg : Bool) (a : Option Addr) (n cap L : Nat) (f : Nat → Nat) (w : World) (hg : B8 w a n f) (hn : (n : Int) ≤ 1048576) (hcap : n ≤ cap) (hcap2 : cap ≤ maxLen) (hf : ∀ i, i < n → f i < 256) (hL : Len f n L) :
    Calls Try.prog 21 #[.bool neg, .slice a n cap] w (IntSaid f n ((L + 7) / 8) w.heap.size (neg && decide (0 < (L + 7) / 8)) w) := by
  have hLn := hL.le
  have HG := Hid.mk hg
  have HF := Hid.mk hf
  have HL := Hid.mk hL
  clear hg hf hL
  generalize hK : (L + 7) / 8 = K
  have hK1 : (K : Int) ≤ 1048576 := by omega
  have HK := Hid.mk hK
  clear hK
  go_enter Try.func21, Try.ntmps21
  have hI0 : IsInt (w.alloc (Obj.cells #[Value.bool false, Value.slice none 0 0] 50)) w.heap.size false none 0 0 :=
    ⟨by simp, World.cell?_alloc_at _ _ _ 0 rfl, World.cell?_alloc_at _ _ _ 1 rfl, fun j => by simp⟩
  have hb0 : Below w.heap.size w (w.alloc (Obj.cells #[Value.bool false, Value.slice none 0 0] 50)) := (Below.refl _ _).alloc (Nat.le_refl _) _
  generalize hw0 : w.alloc (Obj.cells #[Value.bool false, Value.slice none 0 0] 50) = w0 at hI0 hb0
  have HI0 := Hid.mk hI0
  have hG0 := Hid.mk (HG.out.below hb0)
  clear hI0
  go_wp2_with fail
  clear hw0
  refine (SetBytes_any a w.heap.size n cap L f w0 HI0.out hG0.out hn hcap hcap2 HF.out HL.out).mono ?_
  rintro e w1 ⟨rfl, ⟨ga, c, hI1, hW1⟩, hb1⟩
  rw [HK.out] at hI1 hW1
  rcases neg with _ | _
  · go_wp2
    go_ret
    exact ⟨rfl, ⟨ga, c, hI1, hW1⟩, hb0.trans hb1⟩
  · go_wp2_with fail
    refine (Neg_self w.heap.size K c n f ga w w1 hI1 hW1 hK1 (hb0.trans hb1)).mono ?_
    rintro e w2 ⟨rfl, h1, h2⟩
    go_wp2
    go_ret
    rw [Bool.true_and]
    exact ⟨rfl, h1, h2⟩

end Go.Proofs.Qxb6604761a
