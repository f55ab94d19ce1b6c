/-
  DERIVED. ZZint; clones.
-/
import Derived.Test.Qxb6604761aN
namespace Go.Proofs.Qxb6604761a
open Go.RowKit
set_option linter.unusedVariables false

/-- A CLONE: nil; or a row of its own, capacity and length the same. -/
def Cl (w : World) (ao : Option Addr) (n : Nat) (f : Nat → Nat) : Prop := (ao = none ∧ n = 0) ∨ ∃ bb, ao = some ⟨bb, 0, none⟩ ∧ bb < w.heap.size ∧ Row w bb n f
theorem Cl.below {w w' : World} {ao : Option Addr} {n : Nat} {f : Nat → Nat} (h : Cl w ao n f) (hb : Below w.heap.size w w') : Cl w' ao n f := by
  rcases h with h | ⟨bb, h1, h2, h3⟩
  · exact .inl h
  · exact .inr ⟨bb, h1, Nat.lt_of_lt_of_le h2 hb.size, h3.below hb h2⟩
theorem Cl.b8 {w : World} {ao : Option Addr} {n : Nat} {f : Nat → Nat} (h : Cl w ao n f) : B8 w ao n f := by
  rcases h with ⟨_, h⟩ | ⟨bb, rfl, h2, h3⟩
  · exact .inl (by omega)
  · exact h3.b8 h2
theorem Cl.none {w : World} {ao : Option Addr} {n : Nat} {f : Nat → Nat} (h : Cl w ao n f) (h0 : ao = none) : n = 0 := by
  rcases h with ⟨_, h⟩ | ⟨bb, rfl, h2, h3⟩
  · exact h
  · cases h0
theorem Cl.some {w : World} {ao : Option Addr} {n : Nat} {f : Nat → Nat} (h : Cl w ao n f) : ∀ b, ao = some b → b = ⟨b.block, 0, Option.none⟩ ∧ b.block < w.heap.size ∧ Row w b.block n f := by
  rcases h with ⟨h0, h⟩ | ⟨bb, rfl, h2, h3⟩
  · intro b hb; rw [h0] at hb; cases hb
  · intro b hb; cases hb; exact ⟨rfl, h2, h3⟩

theorem clone_any (a : Option Addr) (n cap : Nat) (f : Nat → Nat) (w : World) (hg : B8 w a n f) (hn : (n : Int) ≤ 1048576) (hnone : a = none → n = 0 ∧ cap = 0) :
    Calls Try.prog 7 #[.slice a n cap] w (fun e w' => ∃ ao, e = .returned (.slice ao n n) ∧ Cl w' ao n f ∧ Below w.heap.size w w') := by
  cases a with
  | none =>
    obtain ⟨rfl, rfl⟩ := hnone rfl
    exact (clone_nil w).mono fun e w' ⟨h1, h2⟩ => ⟨none, h1, .inl ⟨rfl, rfl⟩, by rw [h2]; exact Below.refl _ _⟩
  | some x =>
    exact (clone_some x n cap f w hg hn).mono fun e w' ⟨h1, h2, h3, h4, h5⟩ => ⟨_, h1, .inr ⟨_, rfl, h4, h2⟩, h5⟩

/-- WHAT ZZint IS GOOD FOR. -/
def ZZSaid (n : Nat) (F : Nat → Nat) (w : World) (e : Ending) (w' : World) : Prop :=
  ∃ h cap, e = .returned (.slice (some ⟨h, 0, none⟩) n cap) ∧ Buf w' w.heap.size h n cap F ∧ Below w.heap.size w w'

set_option maxRecDepth 100000 in
set_option maxHeartbeats 1000000 in
theorem zzint_any (ao a2 : Option Addr) (n nn cap2 L : Nat) (neg : Bool) (f fb : Nat → Nat) (w : World) (hC : Cl w ao n fb) (hG : B8 w a2 nn f) (hn : n ≤ 65536) (hnn : nn ≤ 65536) (hcap : nn ≤ cap2) (hcap2 : cap2 ≤ maxLen) (hf : ∀ i, i < nn → f i < 256) (hL : Len f nn L) :
    Calls Try.prog 16 #[.slice ao n n, .bool neg, .slice a2 nn cap2] w (ZZSaid (n + vlen (hd neg L) + L) (whole n fb (hd neg L) f nn L) w) := by
  have HC := Hid.mk hC
  have HG := Hid.mk hG
  have HF := Hid.mk hf
  have HL := Hid.mk hL
  clear hC hG hf hL
  have hb0 : Below w.heap.size w (w.alloc (Obj.cells #[Value.slice ao n n] 39)) := (Below.refl _ _).alloc (Nat.le_refl _) _
  have c0 : (w.alloc (Obj.cells #[Value.slice ao n n] 39)).cell? ⟨w.heap.size, 0, none⟩ = some (.slice ao n n) := World.cell?_alloc_at _ _ _ 0 rfl
  have z0 : ∀ j, (w.alloc (Obj.cells #[Value.slice ao n n] 39)).frozen? ⟨w.heap.size, j, none⟩ = false := fun j => by simp
  have s0 : (w.alloc (Obj.cells #[Value.slice ao n n] 39)).heap.size = w.heap.size + 1 := by simp
  generalize hw0 : w.alloc (Obj.cells #[Value.slice ao n n] 39) = w0 at hb0 c0 z0 s0
  have hC0 := Hid.mk (HC.out.below hb0)
  have hG0 := Hid.mk (HG.out.below hb0)
  have HC0 := Hid.mk c0
  have HZ0 := Hid.mk z0
  clear c0 z0
  go_enter Try.func16, Try.ntmps16
  go_wp2_with fail
  clear hw0
  refine (big_any neg a2 nn cap2 L f w0 hG0.out (by omega) hcap hcap2 HF.out HL.out).mono ?_
  rintro e w1 ⟨rfl, ⟨ga, c, hI, hW⟩, hb1⟩
  have hlt0 : w.heap.size < w0.heap.size := by omega
  have hI1 := Hid.mk hI
  have hW1 := Hid.mk hW
  have c1 := (hb1.cell (p := ⟨w.heap.size, 0, none⟩) hlt0).trans HC0.out
  have z1 := fun j => (hb1.frozen (p := ⟨w.heap.size, j, none⟩) hlt0).trans (HZ0.out j)
  have hC1 := Hid.mk (hC0.out.below hb1)
  have hs1 := hb1.size
  have HC1 := Hid.mk c1
  have HZ1 := Hid.mk z1
  clear hI hW c1 z1
  rw [s0] at hI1 hW1 ⊢
  go_wp2_with fail
  refine (int_any w.heap.size (w.heap.size + 1) n nn _ c L ao ga neg f fb w1 (Nat.lt_succ_self _) hI1.out hW1.out HC1.out HZ1.out hC1.out.none hC1.out.some hn HL.out HF.out hnn rfl).mono ?_
  rintro e w2 ⟨rfl, h, cap, c2, hB2, hb2⟩
  go_wp2
  go_ret
  exact ⟨h, cap, rfl, ⟨by have := hB2.ge; omega, hB2.lt, hB2.own, hB2.le, hB2.max, hB2.row⟩, (hb0.trans (hb1.mono (by omega))).trans hb2⟩

end Go.Proofs.Qxb6604761a
