/-
  DERIVED. The law FnNumberListReadsBack: the walk.
-/
import Derived.Test.Qxb6602681aDoorC
import Derived.Laws.IdiomCopy
import Derived.Lib.EndianMore
namespace Go.Proofs.Qxb6602681aDoor
open Go.RowKit
set_option linter.unusedVariables false

set_option maxHeartbeats 400000 in
theorem bytes9 (a : Option Addr) (n c : Nat) (w : World) (h : n ≤ maxLen) : Calls Tryd.prog 9 #[.slice a n c] w (fun e w' => (∃ r : Bool, e = .returned (.bool r)) ∧ w' = w) := by
  unfold maxLen at h
  go_enter Tryd.func9, Tryd.ntmps9
  go_wp2
  all_goals
    go_ret
    exact ⟨⟨_, rfl⟩, rfl⟩

/-- n ints as cells. -/
def cellsOf (n : Nat) (V : Nat → Int) : List Value := (List.range n).map fun j => Value.int .i64 (V j)
theorem cellsOf_length (n : Nat) (V : Nat → Int) : (cellsOf n V).length = n := by simp [cellsOf]
theorem cellsOf_get {n : Nat} {V : Nat → Int} {j : Nat} (hj : j < n) : (cellsOf n V)[j]? = some (Value.int .i64 (V j)) := by simp [cellsOf, hj]

/-- WHAT IS KNOWN OF A SLICE OF INTS THAT CAME IN. -/
structure Came (w : World) (a : Option Addr) (n cap : Nat) (V : Nat → Int) : Prop where
  ints : Ints w a n V
  none : a = none → n = 0 ∧ cap = 0
  le : n ≤ cap
  max : cap ≤ maxLen
  lim : ∀ i, i < n → -9223372036854775808 ≤ V i ∧ V i ≤ 9223372036854775807

/-- The copy: what it writes, and what it leaves. -/
theorem copied {w w1 : World} {a : Option Addr} {n cap : Nat} {V : Nat → Int} (hI : Ints w a n V) (hn0 : 0 < n) (hb : Below w.heap.size w w1) (ht : There w1 w.heap.size n) (hs : w.heap.size < w1.heap.size) :
    (∀ ty, (Builtin.copy_ #[22, 22] ty #[.slice (some ⟨w.heap.size, 0, none⟩) n n, .slice a n cap]).run Tryd.prog w1 = .ok (.int .i64 (n : Int)) (w1.setCells w.heap.size 0 (cellsOf n V))) ∧
    Ints (w1.setCells w.heap.size 0 (cellsOf n V)) (some ⟨w.heap.size, 0, none⟩) n V ∧ Below w.heap.size w (w1.setCells w.heap.size 0 (cellsOf n V)) := by
  rcases hI with hI | ⟨b, off, rfl, hb', hc⟩
  · exfalso; omega
  have hsome : ∀ j, j < (cellsOf n V).length → (w1.cell? ⟨w.heap.size, 0 + j, none⟩).isSome = true := fun j hj => by
    obtain ⟨v, hv⟩ := ht.1 j (by rw [cellsOf_length] at hj; exact hj)
    rw [Nat.zero_add, hv]; rfl
  have hbel : Below w.heap.size w1 (w1.setCells w.heap.size 0 (cellsOf n V)) := Lib.below_setCells_w (Nat.le_refl _) _ _ _
  refine ⟨fun ty => ?_, .inr ⟨w.heap.size, 0, rfl, Nat.lt_of_lt_of_le hs hbel.size, fun i hi => ?_⟩, hb.trans hbel⟩
  · have h := run_copy_cells (P := Tryd.prog) w1 22 22 ty 3 w.heap.size 0 n n ⟨b, off, none⟩ n cap (cellsOf n V) Tryd.underlying22 (by kernel_rfl) (by rw [cellsOf_length]; exact (Nat.min_self n).symm)
      (fun j v hj => by
        have hjn : j < n := by have := (List.getElem?_eq_some_iff.1 hj).1; rw [cellsOf_length] at this; exact this
        rw [cellsOf_get hjn] at hj
        rw [Addr.add_lit, ← hj]
        exact (hb.cell (p := ⟨b, off + j, none⟩) hb').trans (hc j hjn)) hsome (fun j _ => ht.2 _) (fun v hv => by
        obtain ⟨j, _, rfl⟩ := List.mem_map.1 hv
        rfl)
    rw [cellsOf_length] at h
    exact h
  · have h := World.cell?_setCells_in w.heap.size (cellsOf n V) 0 w1 hsome i (by rw [cellsOf_length]; exact hi)
    rw [h]
    simp [cellsOf]

theorem copy_any {w w1 : World} {a : Option Addr} {n cap : Nat} {V : Nat → Int} (hI : Ints w a n V) (hb : Below w.heap.size w w1) (ht : There w1 w.heap.size n) (hs : w.heap.size < w1.heap.size) :
    ∃ w2, (∀ ty, (Builtin.copy_ #[22, 22] ty #[.slice (some ⟨w.heap.size, 0, none⟩) n n, .slice a n cap]).run Tryd.prog w1 = .ok (.int .i64 (n : Int)) w2) ∧ Ints w2 (some ⟨w.heap.size, 0, none⟩) n V ∧ Below w.heap.size w w2 := by
  rcases Nat.eq_zero_or_pos n with rfl | hn0
  · exact ⟨w1, fun ty => run_copy_none (P := Tryd.prog) w1 22 22 ty 3 _ _ 0 0 0 cap Tryd.underlying22 (by kernel_rfl) (by rfl), .inl (by omega), hb⟩
  · obtain ⟨h1, h2, h3⟩ := copied (cap := cap) hI hn0 hb ht hs
    exact ⟨_, h1, h2, h3⟩

set_option maxRecDepth 100000 in
set_option maxHeartbeats 2000000 in
theorem law4 (a : Option Addr) (n cap : Nat) (V : Nat → Int) (w : World) (h : Came w a n cap V) (hT : Tab w) :
    Calls Tryd.prog 4 #[.slice a n cap] w (fun e w' => e = .returned (.bool true) ∧ Below w.heap.size w w') := by
  obtain ⟨i0, hi, hz0, hz1, hz2⟩ := info_parts Tryd.info3
  have m0 : n ≤ maxLen := Nat.le_trans h.le h.max
  have h0s := hT.size
  have H := Hid.mk h
  have HT := Hid.mk hT
  clear h hT
  go_enter Tryd.func4, Tryd.ntmps4
  go_wp2_with fail
  refine (bytes9 a n cap w m0).mono ?_
  rintro e w' ⟨⟨r, rfl⟩, hw⟩
  obtain rfl := hw.symm
  clear hw
  unfold maxLen at m0
  rcases r with _ | _
  · go_wp2
    go_ret
    exact ⟨rfl, Below.refl _ _⟩
  by_cases hn : 32768 < n
  · have hnI : (32768 : Int) < (n : Int) := by omega
    go_wp2
    go_ret
    exact ⟨rfl, Below.refl _ _⟩
  have hnI : ¬ (32768 : Int) < (n : Int) := by omega
  go_upto_if 17 with fail
  go_cut [0] (fun v w' => ∃ a' c', v = .slice a' n c' ∧ Ints w' a' n V ∧ Below w.heap.size w w')
  case first =>
    cases a with
    | none =>
      go_wp2
      go_meet
      case rel => exact ⟨_, _, rfl, H.out.ints, Below.refl _ _⟩
    | some x =>
      go_wp2_with (at_make; refine wpList_make_full _ rfl _ _ 22 rfl w.heap.size 3 i0 _ 1 Tryd.underlying22 hi hz0 hz1 .i64 .i64 _ _ n rfl rfl (by omega) (by omega) (by rw [hz2]; omega) (by unfold maxLen; omega) (Nat.le_refl _) ?_; intro w1 hown hgrow)
      have ht1 := made_row hown
      rw [Nat.mul_one] at ht1
      have hs1 : w.heap.size < w1.heap.size := (hown.lt _ rfl).2
      have hb1 : Below w.heap.size w w1 := (Below.refl _ _).grown hgrow (Nat.le_refl _) (fun k hk => by cases hk)
      obtain ⟨w2, hcp, hI2, hb2⟩ := copy_any (cap := cap) H.out.ints hb1 ht1 hs1
      have HI2 := Hid.mk hI2
      clear hown hgrow hI2 ht1
      simp only [hcp]
      clear hcp
      go_wp2
      go_meet
      case rel => exact ⟨_, _, rfl, HI2.out, hb2⟩
  case rest =>
    obtain ⟨a', c', rfl, hI, hb⟩ := hcut
    have HI := Hid.mk hI
    have HL := Hid.mk H.out.lim
    have HTc := Hid.mk (HT.out.below hb h0s)
    clear hI H
    rcases Nat.eq_zero_or_pos n with rfl | hn0
    · go_wp2_with fail
      refine (zzlist_none a' c' wc).mono ?_
      rintro e w1 ⟨rfl, hw⟩
      obtain rfl := hw.symm
      go_wp2
      go_ret
      exact ⟨rfl, hb⟩
    · have hne : ((n : Int) == 0) = false := by simp; omega
      go_wp2_with fail
      refine (zzlist_some a' n c' V wc HI.out hn0 (by omega) HL.out HTc.out).mono ?_
      rintro e w1 ⟨rfl, hb1⟩
      have HE := Hid.mk (elem_num V n)
      have HCo := Hid.mk (elem_comma V n)
      have hsz : (⟨(text V n).toArray⟩ : ByteArray).size + 1 = at0 V n := text_len V n hn0
      have hlen : (⟨(text V n).toArray⟩ : ByteArray).size ≤ 22 * n := text_length V n HL.out
      have hz0' := at0_zero V
      generalize (⟨(text V n).toArray⟩ : ByteArray) = s at *
      have HI1 := Hid.mk (HI.out.below hb1)
      have hb2 : Below w.heap.size w w1 := hb.trans (hb1.mono hb.size)
      have HB2 := Hid.mk hb2
      have HSZ := Hid.mk hsz
      have HZ := Hid.mk hz0'
      have hsl : s.size ≤ 1048576 := by omega
      clear HI hb hb1 hb2 HT HTc hsz hz0' hlen
      go_wp2_with fail
      go_loop [5, 6] (fun pv iv => ∃ k : Nat, k ≤ n ∧ pv = .int .i64 ((at0 V k - 1 : Nat) : Int) ∧ iv = .int .i64 (k : Int)) (fun _ iv => n - (intOf iv).toNat)
      case atStart => exact ⟨0, Nat.zero_le _, int_val (by rw [HZ.out]; rfl), rfl⟩
      case round =>
        obtain ⟨k, hk, rfl, rfl⟩ := hrel
        by_cases hlt : k < n
        · have hkI : (k : Int) < (n : Int) := by omega
          obtain ⟨q0, hq0⟩ : ∃ q0, q0 = at0 V k - 1 := ⟨_, rfl⟩
          obtain ⟨q1, hq1⟩ : ∃ q1, q1 = at0 V k := ⟨_, rfl⟩
          rw [← hq0]
          have HQ0 := Hid.mk hq0
          have HQ1 := Hid.mk hq1
          clear hq0 hq1
          go_upto_if 39 with fail
          go_cut [5] (fun v w' => v = .int .i64 (q1 : Int) ∧ w' = w1)
          case first =>
            rcases Nat.eq_zero_or_pos k with rfl | hkp
            · go_wp2
              go_meet
              case rel => exact ⟨int_val (by have e0 := HQ0.out; have e1 := HQ1.out; rw [HZ.out] at e0 e1; omega), rfl⟩
            · obtain ⟨hq, hc'⟩ : ∃ h : q0 < s.size, (s[q0]'h).toNat = 44 := by
                have e := HQ0.out
                subst e
                have e2 := HCo.out (k - 1) (by omega)
                rw [show k - 1 + 1 = k by omega] at e2
                exact e2
              have i1 : (q0 : Int) < (s.size : Int) := by omega
              have i0' : (0 : Int) ≤ (q0 : Int) := by omega
              have hkpI : (0 : Int) < (k : Int) := by omega
              go_wp2
              go_meet
              case rel => exact ⟨int_val (by
                have e0 := HQ0.out
                have e1 := HQ1.out
                have e2 := at0_succ V (k - 1)
                rw [show k - 1 + 1 = k by omega] at e2
                omega), rfl⟩
          case rest =>
            obtain ⟨rfl, hw⟩ := hcut
            obtain rfl := hw.symm
            clear hw
            obtain ⟨a1, u, D, neg, ho, hNum, hng, hVk, hend⟩ := HE.out k hlt
            obtain ⟨l1, l2⟩ := HL.out k hlt
            have hR := Hid.mk (read_any s (at0 V k) a1 u D neg (V k) w1 hsl hNum ho hng hVk l1 l2)
            rw [← HQ1.out] at hR
            rcases HI1.out with hI | ⟨b, off, rfl, hb, hcell⟩
            · exfalso; omega
            have s0 := hcell k hlt
            have k1 : (0 : Int) ≤ (k : Int) := by omega
            have HEnd := Hid.mk hend
            clear hcell hNum hng hVk hend
            go_wp2_with fail
            refine hR.out.mono ?_
            rintro e w2 ⟨rfl, hw2⟩
            obtain rfl := hw2.symm
            clear hw2 hR
            go_wp2
            go_round
            case rel => exact ⟨k + 1, by omega, int_val (by have e := HEnd.out; omega), by go_num⟩
            case measure => simp [intOf] <;> omega
        · obtain rfl : k = n := by omega
          have e0 : ((at0 V k - 1 : Nat) : Int) = (s.size : Int) := by have := HSZ.out; omega
          rw [e0]
          clear e0
          go_wp2
          go_ret
          exact ⟨rfl, HB2.out⟩

end Go.Proofs.Qxb6602681aDoor
