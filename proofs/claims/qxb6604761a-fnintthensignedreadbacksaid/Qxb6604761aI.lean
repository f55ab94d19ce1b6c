/-
  DERIVED. binary.AppendUvarint onto a full slice; stateWriter.uint.
-/
import Derived.Test.Qxb6604761aH
import Derived.ArgAppend
namespace Go.Proofs.Qxb6604761a
open Go.RowKit
set_option linter.unusedVariables false

theorem own_base {w : World} {base base' e size n : Nat} {v : Value} {xs : List Value} (h : w.ownsRow base' e size v n xs) (hb : base ≤ base') : w.ownsRow base e size v n xs := by
  refine ⟨h.1, h.2.imp id ?_⟩
  rintro ⟨g, cap, cur, h1, h2, h3⟩
  exact ⟨g, cap, cur, h1, Nat.le_trans hb h2, h3⟩

set_option maxRecDepth 100000 in
set_option maxHeartbeats 1000000 in
/-- APPENDING TO A SLICE WITHOUT SPARE ROOM: what comes back is a row of its own. -/
theorem uv_full (ao : Option Addr) (n x : Nat) (hx : x < 18446744073709551616) (olds : List Value) (w : World) (hnone : ao = none → n = 0) (hlo : olds.length = n) (holds : ∀ b, ao = some b → b.block < w.heap.size ∧ ∀ j u, olds[j]? = some u → w.cell? (b.add j) = some u) (hlim : n + 10 ≤ 140737488355328) :
    Calls Try.prog 30 #[.slice ao n n, .int .u64 x] w fun e w' => ∃ v', e = .returned v' ∧ w'.ownsRow w.heap.size 5 1 v' (n + (Lib.uvarint x).length) (olds ++ Lib.byteCells (Lib.uvarint x)) ∧ Below w.heap.size w w' := by
  obtain ⟨i0, hi, hz0, hz1, hz2⟩ := info_parts Try.info5
  have hlen := Lib.uvarint_length64 hx
  have HO := Hid.mk holds
  have HN := Hid.mk hnone
  have HLO := Hid.mk hlo
  clear holds hnone hlo
  go_enter Try.func30, Try.ntmps30
  go_wp2_with fail
  go_loopw [0, 1] (fun vb vx wr => ∃ (y : Nat) (pre : List UInt8), vx = .int .u64 y ∧ y ≤ x ∧ Lib.uvarint x = pre ++ Lib.uvarint y ∧ ((pre = [] ∧ vb = .slice ao n n ∧ wr = w) ∨ (wr.ownsRow w.heap.size 5 1 vb (n + pre.length) (olds ++ Lib.byteCells pre) ∧ Below w.heap.size w wr)))
    (fun _ vx _ => (intOf vx).toNat)
  case atStart => exact ⟨x, [], rfl, Nat.le_refl _, rfl, .inl ⟨rfl, rfl, rfl⟩⟩
  case round =>
    obtain ⟨y, pre, rfl, hy, hsplit, hcase⟩ := hrel
    have hpl : pre.length + (Lib.uvarint y).length ≤ 10 := by
      have h2 := congrArg List.length hsplit
      rw [List.length_append] at h2
      omega
    have hyp := Lib.uvarint_pos y
    by_cases h128 : 128 ≤ y
    · have hor : bits .or .u8 ((y : Int) % 256) 128 = ((y % 128 + 128 : Nat) : Int) := by
        rw [Lib.u8_or128_any _ (by omega) (by omega)]
        omega
      rcases hcase with ⟨rfl, rfl, rfl⟩ | ⟨hown1, hnx⟩
      · go_wp2_with (at_builtin; refine wpList_append_grows _ rfl _ _ 22 rfl 5 i0 (.int .u8 0) 1 1 Try.underlying22 hi hz0 hz1 hz2 rfl (by decide) ao n n olds rfl (fun h => ⟨HN.out h, HN.out h⟩) (by rw [HLO.out, Nat.mul_one]) ?c0 ⟨wr.heap.size, 0, none⟩ 1 1 [Value.int .u8 ((y % 128 + 128 : Nat) : Int)] rfl rfl ?c1 ?c2 ?c3 ?c4 ?c5 ?_)
        case c0 => intro b hb j u hj; obtain ⟨h1, h2⟩ := HO.out b hb; exact ((((Below.refl wr.heap.size wr).alloc (Nat.le_refl _) _).cell (p := b.add j) (by unfold Addr.add; split <;> exact h1)).trans (h2 j u hj))
        case c1 =>
          intro j u hj
          match j, hj with
          | 0, hj => simp at hj; subst hj; simp [Addr.add]
        case c2 => intro u hu; simp at hu; subst hu; rfl
        case c3 => omega
        case c4 => unfold maxLen; omega
        case c5 => omega
        intro v' w1 hown0 hgrow
        have hown' := own_base hown0 (Nat.le_succ _)
        have hnx1 : Below wr.heap.size wr w1 := ((Below.refl _ _).alloc (Nat.le_refl _) _).grown hgrow (by simp) (fun k hk => by cases hk)
        clear hown0
        go_wp2
        go_roundw
        case rel =>
          refine ⟨y / 128, [] ++ [(y % 128 + 128).toUInt8], by go_num, by omega, by rw [hsplit, Lib.uvarint_big h128]; simp, .inr ⟨?_, hnx1⟩⟩
          have ec : ((y % 128 + 128 : Nat) : Int) = (y : Int) % 128 + 128 := by omega
          rw [Lib.byteCells_snoc [] (by omega), List.length_append, List.length_singleton, ← Nat.add_assoc, ec]
          exact hown'
        case measure => simp [intOf]; omega
      · go_wp2_with (at_builtin; refine wpList_append_own _ rfl _ _ 22 rfl w.heap.size 5 i0 (.int .u8 0) 1 1 Try.underlying22 hi hz0 hz1 hz2 rfl (by decide) _ _ _ rfl (hown1.alloc _) ⟨wr.heap.size, 0, none⟩ 1 1 [Value.int .u8 ((y % 128 + 128 : Nat) : Int)] rfl rfl ?c1b ?c2b ?c3b ?c4b ?c5b ?_)
        case c1b =>
          intro j u hj
          match j, hj with
          | 0, hj => simp at hj; subst hj; simp [Addr.add]
        case c2b => intro u hu; simp at hu; subst hu; rfl
        case c3b => unfold maxLen; omega
        case c4b => omega
        case c5b => have := hnx.size; simp; omega
        intro v' w1 hown' hgrow _
        have hnx1 : Below w.heap.size w w1 := (hnx.alloc hnx.size _).grown hgrow (by have := hnx.size; simp; omega) (fun k hk => (hown1.lt k hk).1)
        go_wp2
        go_roundw
        case rel =>
          refine ⟨y / 128, pre ++ [(y % 128 + 128).toUInt8], by go_num, by omega, by rw [hsplit, Lib.uvarint_big h128]; simp, .inr ⟨?_, hnx1⟩⟩
          have ec : ((y % 128 + 128 : Nat) : Int) = (y : Int) % 128 + 128 := by omega
          rw [Lib.byteCells_snoc pre (by omega), List.length_append, List.length_singleton, ← Nat.add_assoc, ec]
          exact hown'
        case measure => simp [intOf]; omega
    · have hsm : Lib.uvarint y = [y.toUInt8] := Lib.uvarint_small (by omega)
      rcases hcase with ⟨rfl, rfl, rfl⟩ | ⟨hown1, hnx⟩
      · go_wp2_with (at_builtin; refine wpList_append_grows _ rfl _ _ 22 rfl 5 i0 (.int .u8 0) 1 1 Try.underlying22 hi hz0 hz1 hz2 rfl (by decide) ao n n olds rfl (fun h => ⟨HN.out h, HN.out h⟩) (by rw [HLO.out, Nat.mul_one]) ?c0c ⟨wr.heap.size, 0, none⟩ 1 1 [Value.int .u8 (y : Int)] rfl rfl ?c1c ?c2c ?c3c ?c4c ?c5c ?_)
        case c0c => intro b hb j u hj; obtain ⟨h1, h2⟩ := HO.out b hb; exact ((((Below.refl wr.heap.size wr).alloc (Nat.le_refl _) _).cell (p := b.add j) (by unfold Addr.add; split <;> exact h1)).trans (h2 j u hj))
        case c1c =>
          intro j u hj
          match j, hj with
          | 0, hj => simp at hj; subst hj; simp [Addr.add]
        case c2c => intro u hu; simp at hu; subst hu; rfl
        case c3c => omega
        case c4c => unfold maxLen; omega
        case c5c => omega
        intro v' w1 hown0 hgrow
        have hown' := own_base hown0 (Nat.le_succ _)
        have hnx1 : Below wr.heap.size wr w1 := ((Below.refl _ _).alloc (Nat.le_refl _) _).grown hgrow (by simp) (fun k hk => by cases hk)
        clear hown0
        go_wp2
        go_ret
        refine ⟨v', rfl, ?_, hnx1⟩
        rw [hsplit, hsm, Lib.byteCells_snoc [] (by omega), List.length_append, List.length_singleton, ← Nat.add_assoc]
        exact hown'
      · go_wp2_with (at_builtin; refine wpList_append_own _ rfl _ _ 22 rfl w.heap.size 5 i0 (.int .u8 0) 1 1 Try.underlying22 hi hz0 hz1 hz2 rfl (by decide) _ _ _ rfl (hown1.alloc _) ⟨wr.heap.size, 0, none⟩ 1 1 [Value.int .u8 (y : Int)] rfl rfl ?c1d ?c2d ?c3d ?c4d ?c5d ?_)
        case c1d =>
          intro j u hj
          match j, hj with
          | 0, hj => simp at hj; subst hj; simp [Addr.add]
        case c2d => intro u hu; simp at hu; subst hu; rfl
        case c3d => unfold maxLen; omega
        case c4d => omega
        case c5d => have := hnx.size; simp; omega
        intro v' w1 hown' hgrow _
        have hnx1 : Below w.heap.size w w1 := (hnx.alloc hnx.size _).grown hgrow (by have := hnx.size; simp; omega) (fun k hk => (hown1.lt k hk).1)
        go_wp2
        go_ret
        refine ⟨v', rfl, ?_, hnx1⟩
        rw [hsplit, hsm, Lib.byteCells_snoc pre (by omega), List.length_append, List.length_singleton, ← Nat.add_assoc]
        exact hown'

end Go.Proofs.Qxb6604761a
