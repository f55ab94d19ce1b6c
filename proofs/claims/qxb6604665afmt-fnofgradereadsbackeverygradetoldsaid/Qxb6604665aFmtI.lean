/-
  DERIVED. THE LAW FnOfGradeExactLookup, WALKED.
-/
import Derived.Test.Qxb6604665aFmtH
namespace Go.Proofs.Qxb6604665aFmt
open Go.RowKit Go.Maps Go.Sort Go.Extern.Stop Go.Stop Go.Extern
set_option linter.unusedVariables false

/-- What came in: the grades. -/
structure InG (a : Option Addr) (len cap : Nat) (N : Nat → ByteArray) (C X : Nat → Int) (w : World) : Prop where
  row : GrA w a len N C X
  nil : a = none → len = 0 ∧ cap = 0
  lenOk : len ≤ maxLen
  coef : ∀ i, i < len → -9223372036854775808 ≤ C i ∧ C i ≤ 9223372036854775807
/-- What came in: the bands. -/
structure InB (a : Option Addr) (len cap : Nat) (F0 F1 F2 F3 : Nat → Int) (w : World) : Prop where
  row : BdA w a len F0 F1 F2 F3
  nil : a = none → len = 0 ∧ cap = 0
  lenOk : len ≤ maxLen
  coef : ∀ i, i < len → (-9223372036854775808 ≤ F0 i ∧ F0 i ≤ 9223372036854775807) ∧ (-9223372036854775808 ≤ F2 i ∧ F2 i ≤ 9223372036854775807)

theorem IsBig.alloc {base pb : Nat} {w : World} {x : Int} (h : IsBig base w pb x) (o : Obj) : IsBig base (w.alloc o) pb x := h.below ((RowKit.Below.refl _ _).alloc (Nat.le_refl _) _)
theorem IsBig.drew {base pb : Nat} {w : World} {x : Int} (h : IsBig base w pb x) : IsBig base w.drew pb x := h

theorem below_two {B : Nat} {a w : World} (h : RowKit.Below B a w) (hs : B ≤ w.heap.size) (d : Array Value) : RowKit.Below B a (twoBoxes w d) := (h.alloc hs _).alloc (by simp; omega) _

theorem str_ne {a b : ByteArray} (h : a ≠ b) : (a.toList == b.toList) = false := by
  refine beq_eq_false_iff_ne.2 fun e => h ?_
  rw [ByteArray.toList_eq, ByteArray.toList_eq] at e
  obtain ⟨⟨x⟩⟩ := a
  obtain ⟨⟨y⟩⟩ := b
  simp at e
  subst e
  rfl
theorem str_eq {a b : ByteArray} (h : a = b) : (a.toList == b.toList) = true := by
  subst h
  exact beq_self_eq_true _

/-- Either no entry names the grade, or there is a last one that does. -/
theorem last_or_none (N : Nat → ByteArray) (gr : ByteArray) (n : Nat) : (∀ i, i < n → N i ≠ gr) ∨ ∃ q, q < n ∧ N q = gr ∧ ∀ j, q < j → j < n → N j ≠ N q := by
  induction n with
  | zero => exact .inl fun i hi => absurd hi (Nat.not_lt_zero _)
  | succ n ih =>
    by_cases e : N n = gr
    · exact .inr ⟨n, by omega, e, fun j h1 h2 => by omega⟩
    · rcases ih with h | ⟨q, h1, h2, h3⟩
      · refine .inl fun i hi => ?_
        by_cases e' : i = n
        · subst e'; exact e
        · exact h i (by omega)
      · refine .inr ⟨q, by omega, h2, fun j hj hj' => ?_⟩
        by_cases e' : j = n
        · subst e'; rw [h2]; exact e
        · exact h3 j hj (by omega)

set_option maxRecDepth 100000 in
set_option maxHeartbeats 1000000 in
theorem law1 (F : Interp) (a0 : Option Addr) (len0 cap0 : Nat) (a1 : Option Addr) (len1 cap1 : Nat) (sr : Bool) (gr : ByteArray) (N : Nat → ByteArray) (C X : Nat → Int) (F0 F1 F2 F3 : Nat → Int) (w : World) (hF : F.answers w.tape)
    (hg : InG a0 len0 cap0 N C X w) (hb : InB a1 len1 cap1 F0 F1 F2 F3 w) (hgr : gr.size ≤ maxLen) :
    Calls Tryf.prog 3 #[.slice a0 len0 cap0, .slice a1 len1 cap1, .bool sr, .string gr] w fun e w' => e = .returned (.bool true) ∧ RowKit.Below w.heap.size w w' := by
  have hgl := hg.lenOk
  have hbl := hb.lenOk
  unfold maxLen at hgl hbl
  have hgr2 := hgr
  unfold maxLen at hgr2
  go_enter Tryf.func3, Tryf.ntmps3
  go_wp2_with fail
  refine (bytes_any a0 len0 cap0 a1 len1 cap1 sr gr N C X w hg.row hg.lenOk hb.lenOk hgr).mono ?_
  rintro e w' ⟨r, rfl, hw, hr⟩
  obtain rfl := hw.symm
  cases r with
  | false =>
    clear hr
    go_wp2
    go_ret
    exact ⟨rfl, RowKit.Below.refl _ _⟩
  | true =>
    obtain ⟨h0, h1, h2, hN⟩ := hr rfl
    have hi0 : (len0 : Int) ≤ 1048576 := by omega
    have hi1 : (len1 : Int) ≤ 1048576 := by omega
    have HN := Hid.mk hN
    clear hr hN h0 h1
    by_cases hA1 : (4096 : Int) < (len0 : Int)
    · go_wp2
      go_ret
      exact ⟨rfl, RowKit.Below.refl _ _⟩
    have dA1 : decide ((4096 : Int) < (len0 : Int)) = false := by simpa using hA1
    by_cases hA2 : (4096 : Int) < (len1 : Int)
    · clear hA1
      go_wp2
      go_ret
      exact ⟨rfl, RowKit.Below.refl _ _⟩
    have dA2 : decide ((4096 : Int) < (len1 : Int)) = false := by simpa using hA2
    by_cases hA3 : (65536 : Int) < (gr.size : Int)
    · clear hA1 hA2
      go_wp2
      go_ret
      exact ⟨rfl, RowKit.Below.refl _ _⟩
    have dA3 : decide ((65536 : Int) < (gr.size : Int)) = false := by simpa using hA3
    clear hA1 hA2 hA3
    go_wp2_with fail
    refine (gradesBytes_any a0 len0 cap0 a1 len1 cap1 N C X _ hg.row hi0 hi1 HN.out).mono ?_
    rintro e w' ⟨r6, rfl, hw, hr0, hr1⟩
    obtain rfl := hw.symm
    by_cases hB : (1048576 : Int) < r6 + (gr.size : Int)
    · go_wp2
      go_ret
      exact ⟨rfl, RowKit.Below.refl _ _⟩
    have dB : decide ((1048576 : Int) < r6 + (gr.size : Int)) = false := by simpa using hB
    clear hB
    go_wp2_with fail
    refine (cloneG_any a0 len0 cap0 N C X _ hg.row hg.nil hi0).mono ?_
    rintro e w1 ⟨ga, rfl, hga, hb1⟩
    go_wp2_with fail
    refine (cloneB_any a1 len1 cap1 F0 F1 F2 F3 _ (hb.row.below hb1) hb.nil hi1).mono ?_
    rintro e w2 ⟨ba, rfl, hba, hb2⟩
    go_wp2_with fail
    refine (personal_any ga ba len0 len1 N C X F0 F1 F2 F3 sr w2 (hga.below hb2) hba hi0 hi1 HN.out hg.coef hb.coef).mono ?_
    rintro e w3 ⟨m, so, lb, cb, rfl, hP, hb3⟩
    have hP' : PersOf ga N C X len0 m w3 := ⟨_, hP⟩
    have hb13 : RowKit.Below w.heap.size w w3 := (hb1.trans (hb2.mono hb1.size)).trans (hb3.mono (Nat.le_trans hb1.size hb2.size))
    have hg3 : GradesIn w3 ga len0 N C X := (hga.below hb2).below hb3
    have HC := Hid.mk hg.coef
    clear hP hb1 hb2 hb3 hga hba hw hg hb dA1 dA2 dA3 dB
    go_wp2_with fail
    rcases last_or_none N gr len0 with hno | ⟨q, hq, he, hlast⟩
    · refine (ofGrade_no F ga N C X len0 m _ sr gr _ (by show F.answers w3.tape; rw [hb13.tape]; exact hF) (by exact hP'.below ((RowKit.Below.refl _ _).alloc (Nat.le_refl _) _)) (by omega) HN.out hgr hno).mono ?_
      rintro e w5 ⟨eb, rfl, hb5⟩
      have hb35 : RowKit.Below w3.heap.size w3 w5 := ((RowKit.Below.refl _ w3).alloc (Nat.le_refl _) _).trans (hb5.mono (by simp))
      have hg5 := hg3.below hb35
      go_wp2_with fail
      go_loop [12, 13] (fun wv iv => wv = .int .i64 (-1) ∧ ∃ i : Int, -1 ≤ i ∧ i < (len0 : Int) ∧ iv = .int .i64 i) (fun _ iv => (intOf iv + 1).toNat)
      case atStart => exact ⟨rfl, _, by omega, by omega, rfl⟩
      case round =>
        obtain ⟨rfl, i, hi1, hi2, rfl⟩ := hrel
        by_cases hpos : 0 ≤ i
        · obtain ⟨j, rfl⟩ := Int.eq_ofNat_of_zero_le hpos
          have hj : j < len0 := by omega
          have hcmp : ((N j).toList == gr.toList) = false := str_ne (hno j hj)
          rcases hg5 with ⟨_, hz⟩ | ⟨gb, rfl, hgb, hrows⟩
          · exfalso; omega
          obtain ⟨c0, c1, c2⟩ := hrows j hj
          clear hno hP' hg3
          go_wp2
          go_round
          case rel => exact ⟨rfl, _, by omega, by omega, rfl⟩
          case measure => simp [intOf] <;> omega
        · clear hno hP' hg3 hg5
          go_wp2_with (go_at_call 11; refine (isZero_yes _).mono ?_; rintro e w' ⟨rfl, rfl⟩)
          go_ret
          refine ⟨rfl, ?_⟩
          have hb5' : RowKit.Below w.heap.size w w5 := hb13.trans (hb35.mono hb13.size)
          exact (hb5'.alloc hb5'.size _).alloc (by have := hb5'.size; simp; omega) _
    · rcases hg3 with ⟨_, hz⟩ | ⟨gb, rfl, hgb, hrows⟩
      · exfalso; omega
      obtain rfl := he
      refine (ofGrade_yes (some ⟨gb, 0, none⟩) N C X len0 m _ sr q _ (by exact hP'.below ((RowKit.Below.refl _ _).alloc (Nat.le_refl _) _)) (by simp) hq hgr hlast).mono ?_
      rintro e w5 ⟨pb, rfl, hbig, hb5⟩
      have hb35 : RowKit.Below w3.heap.size w3 w5 := ((RowKit.Below.refl _ w3).alloc (Nat.le_refl _) _).trans (hb5.mono (by simp))
      have hg5 : Rows3 w5 gb len0 N C X := fun j hj => by
        obtain ⟨c0, c1, c2⟩ := hrows j hj
        exact ⟨(hb35.cell (p := ⟨gb, j * 3, none⟩) hgb).trans c0, (hb35.cell (p := ⟨gb, j * 3 + 1, none⟩) hgb).trans c1, (hb35.cell (p := ⟨gb, j * 3 + 2, none⟩) hgb).trans c2⟩
      have hgb5 : gb < w5.heap.size := Nat.lt_of_lt_of_le hgb hb35.size
      have HL := Hid.mk hlast
      have HG := Hid.mk hg5
      have HB := Hid.mk hbig
      clear hlast hg5 hbig hrows hP' hb5
      go_wp2_with fail
      go_loop [12, 13] (fun wv iv => wv = .int .i64 (-1) ∧ ∃ i : Int, (q : Int) ≤ i ∧ i < (len0 : Int) ∧ iv = .int .i64 i) (fun _ iv => (intOf iv + 1).toNat)
      case atStart => exact ⟨rfl, _, by omega, by omega, rfl⟩
      case round =>
        obtain ⟨rfl, i, hi1, hi2, rfl⟩ := hrel
        obtain ⟨j, rfl⟩ := Int.eq_ofNat_of_zero_le (show 0 ≤ i by omega)
        have hj : j < len0 := by omega
        obtain ⟨c0, c1, c2⟩ := HG.out j hj
        by_cases hjq : j = q
        · obtain rfl := hjq
          have hcmp : ((N j).toList == (N j).toList) = true := str_eq rfl
          obtain ⟨hC1, hC2⟩ := HC.out j hj
          have hji : (0 : Int) ≤ (j : Int) := by omega
          have hji2 : (j : Int) < (len0 : Int) := by omega
          go_wp2_with fail
          go_region_held3 (fun w' => w'.cell? ⟨w5.heap.size, 0, none⟩ = some (.pointer (some ⟨pb, 0, none⟩)) ∧ w'.cell? ⟨w5.heap.size, 1, none⟩ = some (.int .i32 (X j)) ∧ w'.cell? ⟨gb, j * 3 + 1, none⟩ = some (.int .i64 (C j)) ∧ w'.cell? ⟨gb, j * 3 + 2, none⟩ = some (.int .i32 (X j))) (go_keep)
            (first
              | (go_at_call 11; refine (isZero_no pb (X j) _).mono ?_; rintro e w' ⟨rfl, rfl⟩)
              | (go_at_call 12; refine (coef_any 0 pb (C j) (X j) hC1 hC2 _ ?_).mono ?_; (repeat (first | exact HB.out | apply IsBig.alloc | apply IsBig.drew)); rintro e w' ⟨rfl, rfl⟩)
              | (go_at_call 13; refine (exp_any _ (X j) _).mono ?_; rintro e w' ⟨rfl, rfl⟩))
          go_wp2
          go_ret
          refine ⟨rfl, ?_⟩
          have hb5' : RowKit.Below w.heap.size w w5 := hb13.trans (hb35.mono hb13.size)
          exact below_two (below_two (((hb5'.alloc hb5'.size _).alloc (by have := hb5'.size; simp; omega) _).drew) (by have := hb5'.size; simp; omega) _) (by have := hb5'.size; simp; omega) _
        · have hcmp : ((N j).toList == (N q).toList) = false := str_ne (HL.out j (by omega) hj)
          go_wp2
          go_round
          case rel => exact ⟨rfl, _, by omega, by omega, rfl⟩
          case measure => simp [intOf] <;> omega

end Go.Proofs.Qxb6604665aFmt
