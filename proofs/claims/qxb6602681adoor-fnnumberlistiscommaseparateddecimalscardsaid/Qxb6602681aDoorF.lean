/-
  DERIVED. The law FnNumberListIsCommaSeparatedDecimals: the walk.
-/
import Derived.Test.Qxb6602681aDoorD
import Derived.Test.Qxb6602681aDoorE
namespace Go.Proofs.Qxb6602681aDoor
open Go.RowKit
open Dec (Row5)
set_option linter.unusedVariables false

set_option maxHeartbeats 400000 in
theorem bytes5 (a : Option Addr) (n c : Nat) (w : World) (h : n ≤ maxLen) : Calls Tryd.prog 5 #[.slice a n c] w (fun e w' => (∃ r : Bool, e = .returned (.bool r)) ∧ w' = w) := by
  unfold maxLen at h
  go_enter Tryd.func5, Tryd.ntmps5
  go_wp2
  all_goals
    go_ret
    exact ⟨⟨_, rfl⟩, rfl⟩

/-- The comma ahead of numeral k. -/
def comma (k : Nat) : List UInt8 := if 0 < k then [44] else []
theorem text_succ (V : Nat → Int) (k : Nat) : text V (k + 1) = text V k ++ comma k ++ Lib.itoa (V k) := by
  have h1 := text_flat V (k + 1) (by omega)
  rw [flat_succ, ← List.append_assoc] at h1
  have h2 := List.append_cancel_right h1
  rw [h2]
  unfold comma
  rcases Nat.eq_zero_or_pos k with rfl | hk
  · rfl
  · rw [if_pos hk, text_flat V k hk]
theorem text_pos (V : Nat → Int) (n : Nat) (hn : 0 < n) : 0 < (text V n).length := by
  obtain ⟨k, rfl⟩ : ∃ k, n = k + 1 := ⟨n - 1, by omega⟩
  rw [text_succ, Dec.itoa_sgn]
  have := Lib.nDigits_pos (V k).natAbs
  simp only [List.length_append, Lib.decDigits_length]
  omega

theorem four_cells (w : World) (a b c d : Value) (j : Nat) (u : Value) (hj : [a, b, c, d][j]? = some u) : (w.alloc (Obj.cells #[a, b, c, d] 5)).cell? (Addr.add ⟨w.heap.size, 0, none⟩ j) = some u := by
  rw [Addr.add_lit, Nat.zero_add, World.cell?_alloc_at _ _ _ j rfl, ← hj]
  simp

set_option maxRecDepth 100000 in
set_option maxHeartbeats 2000000 in
theorem law3 (a : Option Addr) (n cap : Nat) (V : Nat → Int) (w : World) (h : Came w a n cap V) (hT : Tab w) :
    Calls Tryd.prog 3 #[.slice a n cap] w (fun e w' => e = .returned (.bool true) ∧ Below w.heap.size w w') := by
  obtain ⟨i0, hi, hz0, hz1, hz2⟩ := info_parts Tryd.info3
  have m0 : n ≤ maxLen := Nat.le_trans h.le h.max
  have h0s := hT.size
  have H := Hid.mk h
  have HT := Hid.mk hT
  clear h hT
  go_enter Tryd.func3, Tryd.ntmps3
  go_wp2_with fail
  refine (bytes5 a n cap w m0).mono ?_
  rintro e w' ⟨⟨r, rfl⟩, hw⟩
  obtain rfl := hw.symm
  clear hw
  unfold maxLen at m0
  rcases r with _ | _
  · go_wp2
    go_ret
    exact ⟨rfl, Below.refl _ _⟩
  by_cases hn : 32768 < n
  · have hnI : (32768 : Int) < (n : Int) := by omega
    go_wp2
    go_ret
    exact ⟨rfl, Below.refl _ _⟩
  have hnI : ¬ (32768 : Int) < (n : Int) := by omega
  go_upto_if 14 with fail
  go_cut [0] (fun v w' => ∃ a' c', v = .slice a' n c' ∧ Ints w' a' n V ∧ Below w.heap.size w w')
  case first =>
    cases a with
    | none =>
      go_wp2
      go_meet
      case rel => exact ⟨_, _, rfl, H.out.ints, Below.refl _ _⟩
    | some x =>
      go_wp2_with (at_make; refine wpList_make_full _ rfl _ _ 22 rfl w.heap.size 3 i0 _ 1 Tryd.underlying22 hi hz0 hz1 .i64 .i64 _ _ n rfl rfl (by omega) (by omega) (by rw [hz2]; omega) (by unfold maxLen; omega) (Nat.le_refl _) ?_; intro w1 hown hgrow)
      have ht1 := made_row hown
      rw [Nat.mul_one] at ht1
      have hs1 : w.heap.size < w1.heap.size := (hown.lt _ rfl).2
      have hb1 : Below w.heap.size w w1 := (Below.refl _ _).grown hgrow (Nat.le_refl _) (fun k hk => by cases hk)
      obtain ⟨w2, hcp, hI2, hb2⟩ := copy_any (cap := cap) H.out.ints hb1 ht1 hs1
      have HI2 := Hid.mk hI2
      clear hown hgrow hI2 ht1
      simp only [hcp]
      clear hcp
      go_wp2
      go_meet
      case rel => exact ⟨_, _, rfl, HI2.out, hb2⟩
  case rest =>
    obtain ⟨a', c', rfl, hI, hb⟩ := hcut
    have HI := Hid.mk hI
    have HL := Hid.mk H.out.lim
    have HTc := Hid.mk (HT.out.below hb h0s)
    clear hI H
    obtain ⟨i5, hi5, hy0, hy1, hy2⟩ := info_parts Dec.info5
    rcases Nat.eq_zero_or_pos n with rfl | hn0
    · go_wp2_with fail
      refine (zzlist_none a' c' wc).mono ?_
      rintro e w1 ⟨rfl, hw⟩
      obtain rfl := hw.symm
      go_wp2_with (at_builtin; refine wpList_append_own_at _ rfl _ _ 25 rfl wc.heap.size 5 i5 (.int .u8 0) 1 1 Tryd.underlying25 hi5 hy0 hy1 hy2 rfl (by decide) _ 0 [] rfl (World.ownsRow_nil _ _ _ _) ⟨wc.heap.size, 0, none⟩ 4 4 [Value.int .u8 110, Value.int .u8 111, Value.int .u8 110, Value.int .u8 101] rfl rfl (four_cells _ _ _ _ _) (by simp [Value.oneCell']) (by unfold maxLen; omega) (by omega) (by simp) ?_; intro v' w1 hown hgrow hnl hat)
      have hr : Row5 w1 wc.heap.size v' [110, 111, 110, 101] := hown
      have hb1 : Below wc.heap.size wc w1 := ((Below.refl _ _).alloc (Nat.le_refl _) _).trans ((Row5.nil _ wc.heap.size).grown hgrow (Nat.le_refl _) (by simp))
      have HR := Hid.mk hr
      clear hown hgrow hnl hat hr
      go_wp2_with fail
      refine (Dec.same_any wc.heap.size v' [110, 111, 110, 101] w1 HR.out (by decide) (by decide)).mono ?_
      rintro e w2 ⟨rfl, hb2⟩
      go_wp2
      go_ret
      exact ⟨rfl, (hb.trans (hb1.mono hb.size)).trans (hb2.mono (Nat.le_trans hb.size hb1.size))⟩
    · have hne : ((n : Int) == 0) = false := by simp; omega
      go_wp2_with fail
      refine (zzlist_some a' n c' V wc HI.out hn0 (by omega) HL.out HTc.out).mono ?_
      rintro e w1 ⟨rfl, hb1⟩
      have HI1 := Hid.mk (HI.out.below hb1)
      have HTp := Hid.mk (text_pos V n hn0)
      have HTl := Hid.mk (text_length V n HL.out)
      have hb2 : Below w.heap.size w w1 := hb.trans (hb1.mono hb.size)
      have hsw : w.heap.size ≤ w1.heap.size := hb2.size
      have HB2 := Hid.mk hb2
      clear HI hb hb1 hb2 HT HTc
      have hTl : ∀ k, k ≤ n → (text V k).length ≤ 22 * k := fun k hk => text_length V k (fun j hj => HL.out j (by omega))
      have HTL := Hid.mk hTl
      clear hTl
      go_wp2_with fail
      go_loopw [5, 6] (fun bv iv wr => ∃ k : Nat, k ≤ n ∧ iv = .int .i64 (k : Int) ∧ Row5 wr w1.heap.size bv (text V k) ∧ Below w1.heap.size w1 wr) (fun _ iv _ => n - (intOf iv).toNat)
      case atStart => exact ⟨0, Nat.zero_le _, rfl, Row5.nil _ _, Below.refl _ _⟩
      case round =>
        obtain ⟨k, hk, rfl, hrow, hbel⟩ := hrel
        by_cases hlt : k < n
        · have hkI : (k : Int) < (n : Int) := by omega
          have k0 : (0 : Int) ≤ (k : Int) := by omega
          have hl := HTL.out k hk
          have hts := text_succ V k
          have HTS := Hid.mk hts
          have HR := Hid.mk hrow
          clear hts hrow
          go_upto_if 37 with fail
          go_cut [5] (fun bv w' => Row5 w' w1.heap.size bv (text V k ++ comma k) ∧ Below w1.heap.size w1 w')
          case first =>
            rcases Nat.eq_zero_or_pos k with rfl | hkp
            · go_wp2
              go_meet
              case rel => unfold comma; rw [if_neg (by omega), List.append_nil]; exact ⟨HR.out, hbel⟩
            · have hkpI : (0 : Int) < (k : Int) := by omega
              generalize text V k = M at *
              go_wp2_with (at_builtin; refine wpList_append_own_at _ rfl _ _ 25 rfl w1.heap.size 5 i5 (.int .u8 0) 1 1 Tryd.underlying25 hi5 hy0 hy1 hy2 rfl (by decide) _ M.length (Lib.byteCells M) rfl (World.ownsRow.alloc HR.out _) ⟨wr.heap.size, 0, none⟩ 1 1 [Value.int .u8 44] rfl rfl (cell_one_new _ _ _) (by simp [Value.oneCell']) (by unfold maxLen; omega) (by omega) (Nat.le_trans hbel.size (by simp)) ?_; intro v' w2 hown hgrow hnl hat)
              have hr2 : Row5 w2 w1.heap.size v' (M ++ [44]) := Row5.more' hown rfl
              have hb2 : Below w1.heap.size w1 w2 := hbel.trans (((Below.refl _ _).alloc hbel.size _).trans ((HR.out.alloc _).grown hgrow (Nat.le_refl _) (Nat.le_trans hbel.size (by simp))))
              have HR2 := Hid.mk hr2
              have HBB := Hid.mk hb2
              clear hown hgrow hnl hat hr2 hb2
              go_wp2
              go_meet
              case rel => unfold comma; rw [if_pos hkp]; exact ⟨HR2.out, HBB.out⟩
          case rest =>
            obtain ⟨hr2, hb2⟩ := hcut
            have HR2 := Hid.mk hr2
            obtain ⟨l1, l2⟩ := HL.out k hlt
            rcases HI1.out with hI | ⟨b, off, rfl, hb, hcell⟩
            · exfalso; omega
            have s0 := (hb2.cell (p := ⟨b, off + k, none⟩) hb).trans (hcell k hlt)
            have hl2 : (text V k ++ comma k).length ≤ 1048576 := by
              have : (comma k).length ≤ 1 := by unfold comma; split <;> simp
              rw [List.length_append]; omega
            clear hr2 hcell hbel HR
            go_wp2_with fail
            refine (Dec.dec_any w1.heap.size _ _ (V k) _ HR2.out hb2.size hl2 l1 l2).mono ?_
            rintro e w3 ⟨v3, rfl, hr3, hb3⟩
            rw [← HTS.out] at hr3
            have HR3 := Hid.mk hr3
            have hb4 := hb2.trans hb3
            clear hr3 hb3 hb2 s0
            go_wp2
            go_roundw
            case rel => exact ⟨k + 1, by omega, by go_num, HR3.out, hb4⟩
            case measure => simp [intOf] <;> omega
        · obtain rfl : k = n := by omega
          have HR := Hid.mk hrow
          clear hrow
          have hl := HTl.out
          have hp := HTp.out
          generalize text V k = M at *
          go_wp2_with fail
          refine (Dec.same_any _ _ M _ HR.out hp (by omega)).mono ?_
          rintro e w2 ⟨rfl, hb3⟩
          go_wp2
          go_ret
          exact ⟨rfl, HB2.out.trans ((hbel.mono hsw).trans (hb3.mono (Nat.le_trans hsw hbel.size)))⟩

end Go.Proofs.Qxb6602681aDoor
