/-
  DERIVED. ONE CONTRACT A CALL, for the laws: the clones at every slice; OfGrade on what zzPersonal made.
-/
import Derived.Test.Qxb6604665aFmtG
namespace Go.Proofs.Qxb6604665aFmt
open Go.RowKit Go.Maps Go.Sort Go.Extern.Stop Go.Stop Go.Extern
open Go.WideMaps (keyOf_string_mk)
set_option linter.unusedVariables false

/-- A clone of the grades. -/
def CloneG (len0 : Nat) (N : Nat → ByteArray) (C X : Nat → Int) (w : World) (e : Ending) (w' : World) : Prop :=
  ∃ ga, e = .returned (.slice ga len0 len0) ∧ GradesIn w' ga len0 N C X ∧ RowKit.Below w.heap.size w w'
def CloneB (len0 : Nat) (F0 F1 F2 F3 : Nat → Int) (w : World) (e : Ending) (w' : World) : Prop :=
  ∃ ga, e = .returned (.slice ga len0 len0) ∧ BandsIn w' ga len0 F0 F1 F2 F3 ∧ RowKit.Below w.heap.size w w'

theorem cloneG_any (a : Option Addr) (len0 cap0 : Nat) (N : Nat → ByteArray) (C X : Nat → Int) (w : World) (hg : GrA w a len0 N C X) (hn : a = none → len0 = 0 ∧ cap0 = 0) (h0 : (len0 : Int) ≤ 1048576) :
    Calls Tryf.prog 7 #[.slice a len0 cap0] w (CloneG len0 N C X w) := by
  cases a with
  | none =>
    obtain ⟨rfl, rfl⟩ := hn rfl
    refine (cloneGrades_nil w).mono ?_
    rintro e w' ⟨rfl, rfl⟩
    exact ⟨none, rfl, .inl ⟨rfl, rfl⟩, RowKit.Below.refl _ _⟩
  | some x =>
    refine (cloneGrades_some x len0 cap0 N C X w hg h0).mono ?_
    rintro e w' ⟨rfl, h1, h2, h3⟩
    exact ⟨_, rfl, .inr ⟨_, rfl, h2, h1⟩, h3⟩

theorem cloneB_any (a : Option Addr) (len0 cap0 : Nat) (F0 F1 F2 F3 : Nat → Int) (w : World) (hg : BdA w a len0 F0 F1 F2 F3) (hn : a = none → len0 = 0 ∧ cap0 = 0) (h0 : (len0 : Int) ≤ 1048576) :
    Calls Tryf.prog 8 #[.slice a len0 cap0] w (CloneB len0 F0 F1 F2 F3 w) := by
  cases a with
  | none =>
    obtain ⟨rfl, rfl⟩ := hn rfl
    refine (cloneBands_nil w).mono ?_
    rintro e w' ⟨rfl, rfl⟩
    exact ⟨none, rfl, .inl ⟨rfl, rfl⟩, RowKit.Below.refl _ _⟩
  | some x =>
    refine (cloneBands_some x len0 cap0 F0 F1 F2 F3 w hg h0).mono ?_
    rintro e w' ⟨rfl, h1, h2, h3⟩
    exact ⟨_, rfl, .inr ⟨_, rfl, h2, h1⟩, h3⟩

theorem GradesIn.below {w w' : World} {ga : Option Addr} {len : Nat} {N : Nat → ByteArray} {C X : Nat → Int} (h : GradesIn w ga len N C X) (hb : RowKit.Below w.heap.size w w') : GradesIn w' ga len N C X := by
  rcases h with h | ⟨gb, h1, h2, h3⟩
  · exact .inl h
  · refine .inr ⟨gb, h1, Nat.lt_of_lt_of_le h2 hb.size, fun j hj => ?_⟩
    obtain ⟨c0, c1, c2⟩ := h3 j hj
    exact ⟨(hb.cell (p := ⟨gb, j * 3, none⟩) h2).trans c0, (hb.cell (p := ⟨gb, j * 3 + 1, none⟩) h2).trans c1, (hb.cell (p := ⟨gb, j * 3 + 2, none⟩) h2).trans c2⟩

theorem GrA.below {w w' : World} {a : Option Addr} {len : Nat} {N : Nat → ByteArray} {C X : Nat → Int} (h : GrA w a len N C X) (hb : RowKit.Below w.heap.size w w') : GrA w' a len N C X := by
  rcases h with h | ⟨gb, off, h1, h2, h3⟩
  · exact .inl h
  · refine .inr ⟨gb, off, h1, Nat.lt_of_lt_of_le h2 hb.size, fun j hj => ?_⟩
    obtain ⟨c0, c1, c2⟩ := h3 j hj
    exact ⟨(hb.cell (p := ⟨gb, off + j * 3, none⟩) h2).trans c0, (hb.cell (p := ⟨gb, off + j * 3 + 1, none⟩) h2).trans c1, (hb.cell (p := ⟨gb, off + j * 3 + 2, none⟩) h2).trans c2⟩

theorem BdA.below {w w' : World} {a : Option Addr} {len : Nat} {F0 F1 F2 F3 : Nat → Int} (h : BdA w a len F0 F1 F2 F3) (hb : RowKit.Below w.heap.size w w') : BdA w' a len F0 F1 F2 F3 := by
  rcases h with h | ⟨gb, off, h1, h2, h3⟩
  · exact .inl h
  · refine .inr ⟨gb, off, h1, Nat.lt_of_lt_of_le h2 hb.size, fun j hj => ?_⟩
    obtain ⟨c0, c1, c2, c3⟩ := h3 j hj
    exact ⟨(hb.cell (p := ⟨gb, off + j * 4, none⟩) h2).trans c0, (hb.cell (p := ⟨gb, off + j * 4 + 1, none⟩) h2).trans c1, (hb.cell (p := ⟨gb, off + j * 4 + 2, none⟩) h2).trans c2, (hb.cell (p := ⟨gb, off + j * 4 + 3, none⟩) h2).trans c3⟩

/-- The Personal that zzPersonal made, still there in w. -/
def PersOf (ga : Option Addr) (N : Nat → ByteArray) (C X : Nat → Int) (len : Nat) (m : Option Nat) (w : World) : Prop := ∃ B, GOut B ga N C X len m w

theorem PersOf.below {ga : Option Addr} {N : Nat → ByteArray} {C X : Nat → Int} {len : Nat} {m : Option Nat} {w w' : World} (h : PersOf ga N C X len m w) (hb : RowKit.Below w.heap.size w w') : PersOf ga N C X len m w' := by
  obtain ⟨B, h⟩ := h
  exact ⟨B, h.same (.of_below hb (Nat.le_refl _))⟩

/-- OfGrade AT A GRADE THAT NO ENTRY NAMES. -/
theorem ofGrade_no (F : Interp) (ga : Option Addr) (N : Nat → ByteArray) (C X : Nat → Int) (len : Nat) (m : Option Nat) (sl : Value) (sr : Bool) (gr : ByteArray) (w : World) (hF : F.answers w.tape)
    (hP : PersOf ga N C X len m w) (hlen : len ≤ 1048576) (hN : ∀ i, i < len → (N i).size ≤ 1048576) (hs : gr.size ≤ maxLen) (hno : ∀ i, i < len → N i ≠ gr) :
    Calls Tryf.prog 10 #[.agg #[.map m, sl, .bool sr], .string gr] w (MissSaid w) := by
  obtain ⟨B, ⟨_, rfl⟩ | ⟨_, rfl, D, PB, hown, hlook, hbig⟩⟩ := hP
  · exact ofGrade_nil F sl sr gr w hF
  · refine ofGrade_miss F _ len sl sr gr D w hF hown hlen hs (hlook.1 _ fun i hi => keyl_ne (hno i hi)) fun x hx => ?_
    obtain ⟨i, hi, rfl⟩ := look_keys hlook (fun es he p hp => by
      obtain ⟨es', he', hk⟩ := hown.keysOf
      subst he
      cases he'
      obtain ⟨key, hkey⟩ := hk p hp
      obtain ⟨x, _, hx, _⟩ := Maps.keyOf_str Tryf.underlying9 hkey
      exact ⟨x, hx⟩) hx
    simpa using hN i hi

/-- OfGrade AT A GRADE: the last entry that names it. -/
def HitSaid (w : World) (x ex : Int) (e : Ending) (w' : World) : Prop := ∃ pb, e = .returned (.tuple #[.agg #[.pointer (some ⟨pb, 0, none⟩), .int .i32 ex], .nilIface]) ∧ IsBig 0 w' pb x ∧ RowKit.Below w.heap.size w w'

theorem ofGrade_yes (ga : Option Addr) (N : Nat → ByteArray) (C X : Nat → Int) (len : Nat) (m : Option Nat) (sl : Value) (sr : Bool) (i : Nat) (w : World)
    (hP : PersOf ga N C X len m w) (hga : ga ≠ none) (hi : i < len) (hs : (N i).size ≤ maxLen) (hlast : ∀ j, i < j → j < len → N j ≠ N i) :
    Calls Tryf.prog 10 #[.agg #[.map m, sl, .bool sr], .string (N i)] w (HitSaid w (C i) (X i)) := by
  obtain ⟨B, ⟨h, _⟩ | ⟨_, rfl, D, PB, hown, hlook, hbig⟩⟩ := hP
  · exact absurd h hga
  · obtain ⟨h1, h2⟩ := hlook.2 i hi hlast
    refine (ofGrade_hit _ len sl sr (N i) D w hown hs (PB i) (X i) h1 h2).mono ?_
    rintro e w' ⟨rfl, hb⟩
    exact ⟨_, rfl, ((hbig i hi).below hb).mono (Nat.zero_le _), hb⟩

end Go.Proofs.Qxb6604665aFmt
