/-
  DERIVED. THE LAW FnOfGradeReadsBackEveryGrade, WALKED.
-/
import Derived.Test.Qxb6604665aFmtI
namespace Go.Proofs.Qxb6604665aFmt
open Go.RowKit Go.Maps Go.Sort Go.Extern.Stop Go.Stop Go.Extern
open Go.WideMaps (keyOf_string_mk)
set_option linter.unusedVariables false

/-- 'seen' AFTER THE ENTRIES BEHIND i: a key is there just if one of them names it, and what lies there is true. -/
def Seen (N : Nat → ByteArray) (len : Nat) (i : Int) (D : DataW Unit) : Prop :=
  (∀ s, Maps.has D (keyl s) = true ↔ ∃ j : Nat, i < (j : Int) ∧ j < len ∧ N j = s) ∧ ∀ s, D.atKey (keyl s) (.lit (.bool false)) = .lit (.bool (Maps.has D (keyl s)))

theorem seen_start (N : Nat → ByteArray) (len : Nat) : Seen N len ((len : Int) - 1) (.map []) := by
  refine ⟨fun s => ⟨fun h => by simp [Maps.has] at h, fun ⟨j, h1, h2, _⟩ => by omega⟩, fun s => ?_⟩
  rw [atKey_of_not_has (by simp [Maps.has])]
  simp [Maps.has]

theorem seen_again {N : Nat → ByteArray} {len i : Nat} {D : DataW Unit} (h : Seen N len i D) (hi : i < len) (hh : Maps.has D (keyl (N i)) = true) : Seen N len ((i : Int) - 1) D := by
  refine ⟨fun s => ?_, h.2⟩
  rw [h.1 s]
  constructor
  · rintro ⟨j, h1, h2, h3⟩
    exact ⟨j, by omega, h2, h3⟩
  · rintro ⟨j, h1, h2, h3⟩
    by_cases e : j = i
    · subst e
      obtain ⟨j', g1, g2, g3⟩ := (h.1 _).1 hh
      exact ⟨j', g1, g2, g3.trans h3⟩
    · exact ⟨j, by omega, h2, h3⟩

theorem seen_new {N : Nat → ByteArray} {len i : Nat} {D : DataW Unit} (h : Seen N len i D) (hD : IsMap D) (hi : i < len) : Seen N len ((i : Int) - 1) (D.put (keyl (N i)) (.lit (.bool true))) := by
  refine ⟨fun s => ?_, fun s => ?_⟩
  · by_cases e : s = N i
    · subst e
      rw [has_put_same hD (keyl_key _)]
      exact ⟨fun _ => ⟨i, by omega, hi, rfl⟩, fun _ => rfl⟩
    · rw [has_put_other (keyl_ne e), h.1 s]
      constructor
      · rintro ⟨j, h1, h2, h3⟩
        exact ⟨j, by omega, h2, h3⟩
      · rintro ⟨j, h1, h2, h3⟩
        have : j ≠ i := fun e' => e (by subst e'; exact h3.symm)
        exact ⟨j, by omega, h2, h3⟩
  · by_cases e : s = N i
    · subst e
      rw [has_put_same hD (keyl_key _), atKey_put_same hD (keyl_key _)]
    · rw [has_put_other (keyl_ne e), atKey_put_other (keyl_ne e)]
      exact h.2 s

theorem zero4 (w : World) : (zeroValue 4).run Tryf.prog w = .ok (.bool false) w := by kernel_rfl

theorem plainElem_bool_inv {P : Program} {e : TypeId} (he : P.underlying e = some .bool) {v : Value} {x : Bool} {ps : List MemPlace} (h : plainElem (H := Unit) P e v = some (.lit (.bool x), ps)) : v = .bool x := by
  unfold plainElem at h
  rw [he] at h
  cases v <;> simp at h
  exact congrArg Value.bool h.1

/-- 'seen[name]'. -/
theorem seen_look {N : Nat → ByteArray} {len n b : Nat} {i : Int} {D : DataW Unit} {w : World} (hown : w.ownsMap Tryf.prog 9 (plainElem Tryf.prog 4) b n D) (h : Seen N len i D) (s : ByteArray) (hs : s.size ≤ maxLen) :
    (Instr.lookup 47 (.map (some b)) (.string s) false).run Tryf.prog w = .ok (.bool (Maps.has D (keyl s))) w := by
  obtain ⟨v, ps, hrun, hv⟩ := hown.lookup law9 Tryf.underlying47 (zero4 w) (plainElem_bool Tryf.underlying4 false) (keyOf_string_mk Tryf.underlying9 hs)
  rw [show (Lit.string s.data.toList) = keyl s from rfl, h.2 s] at hv
  rw [plainElem_bool_inv Tryf.underlying4 hv] at hrun
  exact hrun

theorem ownsB_same {w w' : World} {b n : Nat} {D : DataW Unit} (h : w.ownsMap Tryf.prog 9 (plainElem Tryf.prog 4) b n D) (hb : w'.heap[b]? = w.heap[b]?) : w'.ownsMap Tryf.prog 9 (plainElem Tryf.prog 4) b n D := by
  obtain ⟨es, clock, hb', r⟩ := h
  exact ⟨es, clock, hb.trans hb', r⟩

/-- Everything that the loops read lies in w4; 'seen' is the next block. -/
structure At4 (w w4 : World) (ga : Option Addr) (len : Nat) (N : Nat → ByteArray) (C X : Nat → Int) (m : Option Nat) (so : Option Addr) (lb cb : Nat) (sr : Bool) (pk : Nat) : Prop where
  below : RowKit.Below w.heap.size w w4
  grades : GradesIn w4 ga len N C X
  pers : PersOf ga N C X len m w4
  box : w4.heap[pk]? = some (.cells #[.map m, .slice so lb cb, .bool sr] 31)

theorem end_round {w4 w5 : World} {b n : Nat} {D : DataW Unit} (h : w5.ownsMap Tryf.prog 9 (plainElem Tryf.prog 4) b n D) (hb : RowKit.Below w4.heap.size w4 w5) (d : Array Value) :
    (twoBoxes (twoBoxes ((w5.alloc (.cells d 35)).alloc (.cells d 35)).drew d) d).ownsMap Tryf.prog 9 (plainElem Tryf.prog 4) b n D ∧ RowKit.Below w4.heap.size w4 (twoBoxes (twoBoxes ((w5.alloc (.cells d 35)).alloc (.cells d 35)).drew d) d) :=
  ⟨(((((h.alloc _).alloc _).drew.alloc _).alloc _).alloc _).alloc _,
   below_two (below_two (((hb.alloc hb.size _).alloc (by have := hb.size; simp; omega) _).drew) (by have := hb.size; simp; omega) _) (by have := hb.size; simp; omega) _⟩

set_option maxRecDepth 100000 in
set_option maxHeartbeats 1000000 in
theorem law2 (F : Interp) (a0 : Option Addr) (len0 cap0 : Nat) (a1 : Option Addr) (len1 cap1 : Nat) (sr : Bool) (N : Nat → ByteArray) (C X : Nat → Int) (F0 F1 F2 F3 : Nat → Int) (w : World) (hF : F.answers w.tape)
    (hg : InG a0 len0 cap0 N C X w) (hb : InB a1 len1 cap1 F0 F1 F2 F3 w) :
    Calls Tryf.prog 4 #[.slice a0 len0 cap0, .slice a1 len1 cap1, .bool sr] w fun e w' => e = .returned (.bool true) ∧ RowKit.Below w.heap.size w w' := by
  have hgl := hg.lenOk
  have hbl := hb.lenOk
  unfold maxLen at hgl hbl
  have hmm := @run_makeMap Tryf.prog
  go_enter Tryf.func4, Tryf.ntmps4
  go_wp2_with fail
  refine (bytes2_any a0 len0 cap0 a1 len1 cap1 sr N C X w hg.row hg.lenOk hb.lenOk).mono ?_
  rintro e w' ⟨r, rfl, hw, hr⟩
  obtain rfl := hw.symm
  cases r with
  | false =>
    clear hr
    go_wp2
    go_ret
    exact ⟨rfl, RowKit.Below.refl _ _⟩
  | true =>
    obtain ⟨h0, h1, h2, hN⟩ := hr rfl
    have hi0 : (len0 : Int) ≤ 1048576 := by omega
    have hi1 : (len1 : Int) ≤ 1048576 := by omega
    have HN := Hid.mk hN
    clear hr hN h0 h1 h2
    by_cases hA1 : (1024 : Int) < (len0 : Int)
    · go_wp2
      go_ret
      exact ⟨rfl, RowKit.Below.refl _ _⟩
    have dA1 : decide ((1024 : Int) < (len0 : Int)) = false := by simpa using hA1
    by_cases hA2 : (4096 : Int) < (len1 : Int)
    · clear hA1
      go_wp2
      go_ret
      exact ⟨rfl, RowKit.Below.refl _ _⟩
    have dA2 : decide ((4096 : Int) < (len1 : Int)) = false := by simpa using hA2
    clear hA1 hA2
    go_wp2_with fail
    refine (gradesBytes_any a0 len0 cap0 a1 len1 cap1 N C X _ hg.row hi0 hi1 HN.out).mono ?_
    rintro e w' ⟨r6, rfl, hw, hr0, hr1⟩
    obtain rfl := hw.symm
    by_cases hB : (1048576 : Int) < r6 + (len0 : Int)
    · go_wp2
      go_ret
      exact ⟨rfl, RowKit.Below.refl _ _⟩
    have dB : decide ((1048576 : Int) < r6 + (len0 : Int)) = false := by simpa using hB
    clear hB
    go_wp2_with fail
    refine (nameBytes_any a0 len0 cap0 N C X _ hg.row hi0 HN.out).mono ?_
    rintro e w' ⟨r7, rfl, hw, hr2, hr3⟩
    obtain rfl := hw.symm
    by_cases hB : (65536 : Int) < r7
    · go_wp2
      go_ret
      exact ⟨rfl, RowKit.Below.refl _ _⟩
    have dB' : decide ((65536 : Int) < r7) = false := by simpa using hB
    clear hB
    go_wp2_with fail
    refine (cloneG_any a0 len0 cap0 N C X _ hg.row hg.nil hi0).mono ?_
    rintro e w1 ⟨ga, rfl, hga, hb1⟩
    go_wp2_with fail
    refine (cloneB_any a1 len1 cap1 F0 F1 F2 F3 _ (hb.row.below hb1) hb.nil hi1).mono ?_
    rintro e w2 ⟨ba, rfl, hba, hb2⟩
    go_wp2_with fail
    refine (personal_any ga ba len0 len1 N C X F0 F1 F2 F3 sr w2 (hga.below hb2) hba hi0 hi1 HN.out hg.coef hb.coef).mono ?_
    rintro e w3 ⟨m, so, lb, cb, rfl, hP, hb3⟩
    have hP' : PersOf ga N C X len0 m w3 := ⟨_, hP⟩
    have hb13 : RowKit.Below w.heap.size w w3 := (hb1.trans (hb2.mono hb1.size)).trans (hb3.mono (Nat.le_trans hb1.size hb2.size))
    have hg3 : GradesIn w3 ga len0 N C X := (hga.below hb2).below hb3
    have HC := Hid.mk hg.coef
    clear hP hb1 hb2 hb3 hga hba hw hg hb dA1 dA2 dB dB'
    go_wp2_with fail
    have hA : At4 w (w3.alloc (.cells #[.map m, .slice so lb cb, .bool sr] 31)) ga len0 N C X m so lb cb sr w3.heap.size :=
      ⟨hb13.alloc hb13.size _, hg3.below ((RowKit.Below.refl _ _).alloc (Nat.le_refl _) _), hP'.below ((RowKit.Below.refl _ _).alloc (Nat.le_refl _) _), heap_alloc_new _ _⟩
    have hs4 : w3.heap.size + 1 = (w3.alloc (.cells #[.map m, .slice so lb cb, .bool sr] 31)).heap.size := by simp
    clear hP' hb13 hg3
    rw [hs4]
    generalize w3.alloc (.cells #[.map m, .slice so lb cb, .bool sr] 31) = w4 at *
    clear hs4
    generalize w3.heap.size = pk at *
    clear w3
    go_loopw [9] (fun iv wr => ∃ i : Int, -1 ≤ i ∧ i < (len0 : Int) ∧ iv = .int .i64 i ∧ ∃ D n, wr.ownsMap Tryf.prog 9 (plainElem Tryf.prog 4) w4.heap.size n D ∧ (n : Int) ≤ (len0 : Int) - 1 - i ∧ Seen N len0 i D ∧ RowKit.Below w4.heap.size w4 wr) (fun iv _ => (intOf iv + 1).toNat)
    case atStart => exact ⟨_, by omega, by omega, rfl, .map [], 0, World.ownsMap_made _ _ _ _, by omega, seen_start N len0, (RowKit.Below.refl _ _).alloc (Nat.le_refl _) _⟩
    case round =>
      obtain ⟨i, hi2, hi3, rfl, D, n, hown, hn, hseen, hbel⟩ := hrel
      by_cases hpos : 0 ≤ i
      · obtain ⟨j, rfl⟩ := Int.eq_ofNat_of_zero_le hpos
        have hj : j < len0 := by omega
        have hNj : (N j).size ≤ maxLen := by have := HN.out j hj; unfold maxLen; omega
        rcases hA.grades with ⟨_, hz⟩ | ⟨gb, rfl, hgb, hrows⟩
        · exfalso; omega
        obtain ⟨c0, c1, c2⟩ := hrows j hj
        have hk := seen_look hown hseen (N j) hNj
        cases hhas : Maps.has D (keyl (N j)) with
        | true =>
          rw [hhas] at hk
          rw [← hbel.cell (p := ⟨gb, j * 3, none⟩) hgb] at c0
          have R := seen_again hseen hj hhas
          have HR := Hid.mk R
          have HO := Hid.mk hown
          clear R hseen hhas hown hrows c1 c2
          go_wp2
          go_roundw
          case rel => first | exact ⟨_, by omega, by omega, rfl, D, n, HO.out, by omega, HR.out, hbel⟩ | ((repeat apply Exists.intro); exact ⟨⟨_, by omega, by omega, rfl, D, n, HO.out, by omega, HR.out, hbel⟩, rfl⟩)
          case measure => simp [intOf] <;> omega
        | false =>
          rw [hhas] at hk
          rw [← hbel.cell (p := ⟨gb, j * 3, none⟩) hgb] at c0
          have hlast : ∀ q, j < q → q < len0 → N q ≠ N j := fun q h1 h2 h3 => by
            have := (hseen.1 (N j)).2 ⟨q, by omega, h2, h3⟩
            rw [hhas] at this
            cases this
          obtain ⟨w1, hrun, hown1, hgrow1⟩ := hown.update law9 Tryf.underlying47 (by unfold maxLen; omega) (keyOf_string_mk Tryf.underlying9 hNj) (plainElem_bool Tryf.underlying4 true)
          have R := seen_new hseen hown.isMap hj
          have HR := Hid.mk R
          have HO := Hid.mk hown1
          have HL := Hid.mk hlast
          have hbel1 : RowKit.Below w4.heap.size w4 w1 := hbel.grown hgrow1 hbel.size (fun k hk => by cases hk; exact Nat.le_refl _)
          have hpk : pk < w4.heap.size := (Array.getElem?_eq_some_iff.1 hA.box).1
          have hbx : w1.heap[pk]? = some (.cells #[.map m, .slice so lb cb, .bool sr] 31) := (hbel1.block pk hpk).trans hA.box
          have x0 : w1.cell? ⟨pk, 0, none⟩ = some (.map m) := by rw [cell_of_row _ _ _ _ _ _ hbx]; rfl
          have x1 : w1.cell? ⟨pk, 1, none⟩ = some (.slice so lb cb) := by rw [cell_of_row _ _ _ _ _ _ hbx]; rfl
          have x2 : w1.cell? ⟨pk, 2, none⟩ = some (.bool sr) := by rw [cell_of_row _ _ _ _ _ _ hbx]; rfl
          clear R hseen hhas hown hown1 hgrow1 hrows hlast hbx hbel
          go_wp2_with fail
          refine (ofGrade_yes _ N C X len0 m _ sr j w1 (hA.pers.below hbel1) (by simp) hj hNj HL.out).mono ?_
          rintro e w5 ⟨pb, rfl, hbig, hb5⟩
          have hbel5 : RowKit.Below w4.heap.size w4 w5 := hbel1.trans (hb5.mono hbel1.size)
          have HO5 := Hid.mk (ownsB_same HO.out (hb5.block _ HO.out.lt))
          have s1 := (hbel5.cell (p := ⟨gb, j * 3 + 1, none⟩) hgb).trans c1
          have s2 := (hbel5.cell (p := ⟨gb, j * 3 + 2, none⟩) hgb).trans c2
          have hgb5 : gb < w5.heap.size := Nat.lt_of_lt_of_le hgb hbel5.size
          have hgb6 : gb < w5.heap.size + 1 := by omega
          have HB := Hid.mk hbig
          obtain ⟨hC1, hC2⟩ := HC.out j hj
          clear hb5 hbel1 hbig HO hk hrun x0 x1 x2 c0 c1 c2 HL
          go_wp2_with (go_at_call 11; refine (isZero_no pb (X j) _).mono ?_; rintro e w' ⟨rfl, rfl⟩)
          go_region_held3 (fun w' => w'.cell? ⟨w5.heap.size, 0, none⟩ = some (.pointer (some ⟨pb, 0, none⟩)) ∧ w'.cell? ⟨w5.heap.size, 1, none⟩ = some (.int .i32 (X j)) ∧ w'.cell? ⟨gb, j * 3 + 1, none⟩ = some (.int .i64 (C j)) ∧ w'.cell? ⟨gb, j * 3 + 2, none⟩ = some (.int .i32 (X j))) (go_keep)
            (first
              | (go_at_call 12; refine (coef_any 0 pb (C j) (X j) hC1 hC2 _ ?_).mono ?_; (repeat (first | exact HB.out | apply IsBig.alloc | apply IsBig.drew)); rintro e w' ⟨rfl, rfl⟩)
              | (go_at_call 13; refine (exp_any _ (X j) _).mono ?_; rintro e w' ⟨rfl, rfl⟩))
          have HE := Hid.mk (end_round HO5.out hbel5 #[.pointer (some ⟨pb, 0, none⟩), .int .i32 (X j)])
          clear HB hbel5 HO5 s1 s2
          go_wp2
          go_roundw
          case rel => first | exact ⟨_, by omega, by omega, rfl, _, n + 1, HE.out.1, by omega, HR.out, HE.out.2⟩ | ((repeat apply Exists.intro); exact ⟨⟨_, by omega, by omega, rfl, _, n + 1, HE.out.1, by omega, HR.out, HE.out.2⟩, rfl⟩)
          case measure => simp [intOf] <;> omega
      · have hi1 : i = -1 := by omega
        subst hi1
        have HS := Hid.mk hseen
        have HO := Hid.mk hown
        clear hseen hown
        go_wp2_with fail
        go_loopw [13] (fun iv wt => ∃ k : Nat, k ≤ len0 ∧ iv = .int .i64 k ∧ wt.ownsMap Tryf.prog 9 (plainElem Tryf.prog 4) w4.heap.size n D ∧ RowKit.Below w4.heap.size w4 wt) (fun iv _ => len0 - (intOf iv).toNat)
        case atStart => exact ⟨0, Nat.zero_le _, rfl, HO.out, hbel⟩
        case round =>
          clear hbel
          obtain ⟨k, hk, rfl, hown, hbel⟩ := hrel
          by_cases hlt : k < len0
          · rcases hA.grades with ⟨_, hz⟩ | ⟨gb, rfl, hgb, hrows⟩
            · exfalso; omega
            obtain ⟨c0, c1, c2⟩ := hrows k hlt
            rw [← hbel.cell (p := ⟨gb, k * 3, none⟩) hgb] at c0
            have hNk := HN.out k hlt
            have hNk2 : ((N k).size : Int) ≤ 1048576 := by omega
            have hps : (N k ++ (⟨#[0]⟩ : ByteArray)).size ≤ maxLen := by rw [ByteArray.size_append]; unfold maxLen; show (N k).size + 1 ≤ _; omega
            have hk2 := seen_look hown HS.out (N k ++ (⟨#[0]⟩ : ByteArray)) hps
            cases hhas : Maps.has D (keyl (N k ++ (⟨#[0]⟩ : ByteArray))) with
            | true =>
              rw [hhas] at hk2
              have HOw := Hid.mk hown
              clear hown hrows c1 c2 hNk hhas
              go_wp2
              go_roundw
              case rel => first | exact ⟨k + 1, by omega, by go_num, HOw.out, hbel⟩ | ((repeat apply Exists.intro); exact ⟨⟨k + 1, by omega, by go_num, HOw.out, hbel⟩, rfl⟩)
              case measure => simp [intOf] <;> omega
            | false =>
              rw [hhas] at hk2
              have hno : ∀ j, j < len0 → N j ≠ N k ++ (⟨#[0]⟩ : ByteArray) := fun j hj he => by
                have := (HS.out.1 (N k ++ (⟨#[0]⟩ : ByteArray))).2 ⟨j, by omega, hj, he⟩
                rw [hhas] at this
                cases this
              have hpk : pk < w4.heap.size := (Array.getElem?_eq_some_iff.1 hA.box).1
              have hbx : wr.heap[pk]? = some (.cells #[.map m, .slice so lb cb, .bool sr] 31) := (hbel.block pk hpk).trans hA.box
              have x0 : wr.cell? ⟨pk, 0, none⟩ = some (.map m) := by rw [cell_of_row _ _ _ _ _ _ hbx]; rfl
              have x1 : wr.cell? ⟨pk, 1, none⟩ = some (.slice so lb cb) := by rw [cell_of_row _ _ _ _ _ _ hbx]; rfl
              have x2 : wr.cell? ⟨pk, 2, none⟩ = some (.bool sr) := by rw [cell_of_row _ _ _ _ _ _ hbx]; rfl
              have HOw := Hid.mk hown
              have HNO := Hid.mk hno
              clear hown hrows c1 c2 hNk hhas hno hbx
              go_wp2_with fail
              refine (ofGrade_no F _ N C X len0 m _ sr _ wr (by rw [hbel.tape, hA.below.tape]; exact hF) (hA.pers.below hbel) (by omega) HN.out hps HNO.out).mono ?_
              rintro e w5 ⟨eb, rfl, hb5⟩
              have hbel5 : RowKit.Below w4.heap.size w4 w5 := hbel.trans (hb5.mono hbel.size)
              have HO5 := Hid.mk (ownsB_same HOw.out (hb5.block _ HOw.out.lt))
              clear hb5 hbel hk2 x0 x1 x2 c0
              go_wp2_with (go_at_call 11; refine (isZero_yes _).mono ?_; rintro e w' ⟨rfl, rfl⟩)
              go_roundw
              case rel => first | exact ⟨k + 1, by omega, by go_num, (HO5.out.alloc _).alloc _, (hbel5.alloc hbel5.size _).alloc (by have := hbel5.size; simp; omega) _⟩ | ((repeat apply Exists.intro); exact ⟨⟨k + 1, by omega, by go_num, (HO5.out.alloc _).alloc _, (hbel5.alloc hbel5.size _).alloc (by have := hbel5.size; simp; omega) _⟩, rfl⟩)
              case measure => simp [intOf] <;> omega
          · go_wp2
            go_ret
            exact ⟨rfl, hA.below.trans (hbel.mono hA.below.size)⟩

end Go.Proofs.Qxb6604665aFmt
