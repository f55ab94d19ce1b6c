/-
  DERIVED. zzPersonal.
-/
import Derived.Test.Qxb6604665aFmtD
import Derived.Deep.RegionHeld3
import Derived.Deep.DeepCutAuto
namespace Go.Proofs.Qxb6604665aFmt
open Go.RowKit Go.Maps
open Go.WideMaps (keyOf_string_mk)
set_option linter.unusedVariables false

theorem law9 : Keyed Tryf.prog 9 := string_keyed Tryf.underlying9

/-- From block lo on w' holds what w held, and w' is no smaller. -/
theorem ownsMap_same {w w' : World} {b n lo : Nat} {D : DataW Unit} (h : w.ownsMap Tryf.prog 9 decElem b n D) (hs : SameFrom lo w w') (hb : lo ≤ b) : w'.ownsMap Tryf.prog 9 decElem b n D := by
  have hlt := h.lt
  obtain ⟨es, clock, hb', r⟩ := h
  exact ⟨es, clock, (hs b hb hlt).trans hb', r⟩

/-- THE MAP IN BLOCK B + 2 HOLDS THE FIRST k ENTRIES. -/
def GInv (B : Nat) (N : Nat → ByteArray) (C X : Nat → Int) (k : Nat) (wr : World) : Prop :=
  ∃ D PB, wr.ownsMap Tryf.prog 9 decElem (B + 2) k D ∧ Look N X PB k D ∧ ∀ i, i < k → IsBig (B + 3) wr (PB i) (C i)

theorem GInv.same {B : Nat} {N : Nat → ByteArray} {C X : Nat → Int} {k : Nat} {w w' : World} (h : GInv B N C X k w) (hs : SameFrom (B + 2) w w') : GInv B N C X k w' := by
  obtain ⟨D, PB, h1, h2, h3⟩ := h
  exact ⟨D, PB, ownsMap_same h1 hs (Nat.le_refl _), h2, fun i hi => (h3 i hi).same (fun k h4 h5 => hs k (by omega) h5)⟩

/-- THE TWO STRUCTS OF zzPersonal: block B (the result's) and block B + 1 (p: the map, the bands, the flag). -/
def PInv (B : Nat) (m sl : Value) (sr : Bool) (wr : World) : Prop :=
  (wr.cell? ⟨B + 1, 0, none⟩ = some m ∧ wr.cell? ⟨B + 1, 1, none⟩ = some sl ∧ wr.cell? ⟨B + 1, 2, none⟩ = some (.bool sr)) ∧ (∀ o, wr.frozen? ⟨B + 1, o, none⟩ = false) ∧ There wr B 3

theorem frozen_same {lo : Nat} {w w' : World} (hs : SameFrom lo w w') {b o : Nat} (hb : lo ≤ b) (hlt : b < w.heap.size) : w'.frozen? ⟨b, o, none⟩ = w.frozen? ⟨b, o, none⟩ := World.frozen?_of_block (hs b hb hlt)
theorem There.same {lo : Nat} {w w' : World} (hs : SameFrom lo w w') {g m : Nat} (h : There w g m) (hb : lo ≤ g) (hlt : g < w.heap.size) : There w' g m :=
  ⟨fun j hj => let ⟨v, hv⟩ := h.1 j hj; ⟨v, hs.cell (p := ⟨g, j, none⟩) hb hv⟩, fun j => (frozen_same hs hb hlt).trans (h.2 j)⟩
theorem PInv.same {B : Nat} {m sl : Value} {sr : Bool} {w w' : World} (h : PInv B m sl sr w) (hs : SameFrom B w w') : PInv B m sl sr w' := by
  obtain ⟨⟨h0, h1, h2⟩, hf, ht⟩ := h
  have hl := World.block_lt_of_cell? w _ h0
  simp at hl
  exact ⟨⟨hs.cell (p := ⟨B + 1, 0, none⟩) (Nat.le_succ _) h0, hs.cell (p := ⟨B + 1, 1, none⟩) (Nat.le_succ _) h1, hs.cell (p := ⟨B + 1, 2, none⟩) (Nat.le_succ _) h2⟩,
    fun o => (frozen_same hs (Nat.le_succ _) hl).trans (hf o), ht.same hs (Nat.le_refl _) (by omega)⟩

theorem PInv.blocks {B : Nat} {m sl : Value} {sr : Bool} {w w' : World} (h : PInv B m sl sr w) (h0 : w'.heap[B]? = w.heap[B]?) (h1 : w'.heap[B + 1]? = w.heap[B + 1]?) : PInv B m sl sr w' := by
  obtain ⟨⟨c0, c1, c2⟩, hf, ht⟩ := h
  have e0 : ∀ o, w'.cell? ⟨B, o, none⟩ = w.cell? ⟨B, o, none⟩ := fun o => World.cell?_of_block h0
  have e1 : ∀ o, w'.cell? ⟨B + 1, o, none⟩ = w.cell? ⟨B + 1, o, none⟩ := fun o => World.cell?_of_block h1
  have f0 : ∀ o, w'.frozen? ⟨B, o, none⟩ = w.frozen? ⟨B, o, none⟩ := fun o => World.frozen?_of_block h0
  have f1 : ∀ o, w'.frozen? ⟨B + 1, o, none⟩ = w.frozen? ⟨B + 1, o, none⟩ := fun o => World.frozen?_of_block h1
  exact ⟨⟨by rw [e1]; exact c0, by rw [e1]; exact c1, by rw [e1]; exact c2⟩, fun o => by rw [f1]; exact hf o, fun j hj => by rw [e0]; exact ht.1 j hj, fun j => by rw [f0]; exact ht.2 j⟩

theorem SameFrom.of_grown {lo r : Nat} {w w' : World} (h : w.grownBy w' (some r)) (hr : r < lo) : SameFrom lo w w' := fun k h1 h2 => h.block k h2 (by simp; omega)
theorem SameFrom.trans {lo : Nat} {a b c : World} (h : SameFrom lo a b) (h' : SameFrom lo b c) (hs : a.heap.size ≤ b.heap.size) : SameFrom lo a c := fun k h1 h2 => (h' k h1 (by omega)).trans (h k h1 h2)

/-- A ROUND OF THE FIRST LOOP: a Decimal has been made and stored in the map. -/
theorem round_grades {B : Nat} {N : Nat → ByteArray} {C X : Nat → Int} {k : Nat} {sl : Value} {sr : Bool} {w wr w1 w2 : World} {D : DataW Unit} {PB : Nat → Nat} {pb : Nat}
    (hP : PInv B (.map (some (B + 2))) sl sr wr) (hown : wr.ownsMap Tryf.prog 9 decElem (B + 2) k D) (hlook : Look N X PB k D) (hbigs : ∀ i, i < k → IsBig (B + 3) wr (PB i) (C i)) (hbel : Below B w wr) (hsz : B + 3 ≤ wr.heap.size)
    (hbig : IsBig wr.drew.heap.size w1 pb (C k)) (hb1 : Below wr.drew.heap.size wr.drew w1) (hown2 : w2.ownsMap Tryf.prog 9 decElem (B + 2) (k + 1) (D.put (keyl (N k)) (dd pb (X k)))) (hgrow2 : w1.grownBy w2 (some (B + 2))) :
    PInv B (.map (some (B + 2))) sl sr w2 ∧ GInv B N C X (k + 1) w2 ∧ Below B w w2 ∧ B + 3 ≤ w2.heap.size := by
  have hb1' : Below wr.heap.size wr w1 := ⟨hb1.os, hb1.tape, hb1.output, hb1.size, hb1.block⟩
  have hs1 := hb1'.size
  have hs2 := hgrow2.size
  refine ⟨?_, ⟨_, _, hown2, look_step hlook hown.isMap pb, fun i hi => ?_⟩, ?_, by omega⟩
  · refine hP.blocks ?_ ?_
    · rw [hgrow2.block B (by omega) (by simp), hb1'.block B (by omega)]
    · rw [hgrow2.block (B + 1) (by omega) (by simp), hb1'.block (B + 1) (by omega)]
  · by_cases e : i = k
    · subst e
      simp only [if_true]
      exact (hbig.mono (by simp; omega)).same (.of_grown hgrow2 (by omega))
    · simp only [e, if_false]
      exact ((hbigs i (by omega)).same (.of_below hb1' (Nat.le_refl _))).same (.of_grown hgrow2 (by omega))
  · exact (hbel.trans (hb1'.mono (by omega))).grown hgrow2 (by omega) (fun k hk => by cases hk; omega)

theorem start_grades (w : World) (sr : Bool) (N : Nat → ByteArray) (C X : Nat → Int) :
    PInv w.heap.size (.map (some (w.heap.size + 2))) (.slice none 0 0) sr (((w.alloc (.cells #[.map none, .slice none 0 0, .bool false] 31)).alloc (.cells #[.map (some (w.heap.size + 1 + 1)), .slice none 0 0, .bool sr] 31)).alloc (.map #[] 0)) ∧
    GInv w.heap.size N C X 0 (((w.alloc (.cells #[.map none, .slice none 0 0, .bool false] 31)).alloc (.cells #[.map (some (w.heap.size + 1 + 1)), .slice none 0 0, .bool sr] 31)).alloc (.map #[] 0)) ∧
    Below w.heap.size w (((w.alloc (.cells #[.map none, .slice none 0 0, .bool false] 31)).alloc (.cells #[.map (some (w.heap.size + 1 + 1)), .slice none 0 0, .bool sr] 31)).alloc (.map #[] 0)) ∧
    w.heap.size + 3 ≤ (((w.alloc (.cells #[.map none, .slice none 0 0, .bool false] 31)).alloc (.cells #[.map (some (w.heap.size + 1 + 1)), .slice none 0 0, .bool sr] 31)).alloc (.map #[] 0)).heap.size := by
  generalize hA : (Obj.cells #[.map none, .slice none 0 0, .bool false] 31) = A
  generalize hB : (Obj.cells #[.map (some (w.heap.size + 1 + 1)), .slice none 0 0, .bool sr] 31) = B
  have e0 : (((w.alloc A).alloc B).alloc (.map #[] 0)).heap[w.heap.size]? = some A := by
    rw [heap_alloc_old _ _ (by simp; omega), heap_alloc2_old]
  have e1 : (((w.alloc A).alloc B).alloc (.map #[] 0)).heap[w.heap.size + 1]? = some B := by
    rw [heap_alloc_old _ _ (by simp), heap_alloc2_new]
  have hm := World.ownsMap_made ((w.alloc A).alloc B) Tryf.prog 9 decElem
  rw [show ((w.alloc A).alloc B).heap.size = w.heap.size + 2 by simp] at hm
  subst hA hB
  refine ⟨⟨⟨?_, ?_, ?_⟩, ?_, ?_, ?_⟩, ⟨_, fun _ => 0, hm, look_start _ _ _, fun i hi => absurd hi (Nat.not_lt_zero _)⟩, ?_, by simp⟩
  · rw [cell_of_row _ _ _ _ _ _ e1]; rfl
  · rw [cell_of_row _ _ _ _ _ _ e1]; rfl
  · rw [cell_of_row _ _ _ _ _ _ e1]; rfl
  · intro o; exact frozen_of_row _ _ _ _ _ e1
  · intro j hj
    rw [cell_of_row _ _ _ _ _ _ e0]
    exact ⟨_, Array.getElem?_eq_getElem (by simpa using hj)⟩
  · intro j; exact frozen_of_row _ _ _ _ _ e0
  · exact (((Below.refl _ _).alloc (Nat.le_refl _) _).alloc (by simp) _).alloc (by simp; omega) _

theorem Tryf.info53 : (Tryf.prog.info? 53).map (fun i => (i.zero, i.size, i.bytes)) = some (some (.agg #[.pointer none, .int .i32 0, .pointer none, .int .i32 0]), 4, 32) := by kernel_rfl

/-- THE GRADES AS THEY ARE HANDED TO zzPersonal. -/
def GradesIn (w : World) (ga : Option Addr) (len : Nat) (N : Nat → ByteArray) (C X : Nat → Int) : Prop :=
  (ga = none ∧ len = 0) ∨ ∃ gb, ga = some ⟨gb, 0, none⟩ ∧ gb < w.heap.size ∧ Rows3 w gb len N C X
/-- THE BANDS AS THEY ARE HANDED TO zzPersonal. -/
def BandsIn (w : World) (ba : Option Addr) (len : Nat) (F0 F1 F2 F3 : Nat → Int) : Prop :=
  (ba = none ∧ len = 0) ∨ ∃ bb, ba = some ⟨bb, 0, none⟩ ∧ bb < w.heap.size ∧ Rows4 w bb len F0 F1 F2 F3
/-- What Grades is, and what it holds. -/
def GOut (B : Nat) (ga : Option Addr) (N : Nat → ByteArray) (C X : Nat → Int) (len : Nat) (m : Option Nat) (wr : World) : Prop :=
  (ga = none ∧ m = none) ∨ (ga ≠ none ∧ m = some (B + 2) ∧ GInv B N C X len wr)

/-- The state behind the first 'if'. -/
def Mid (w : World) (ga : Option Addr) (N : Nat → ByteArray) (C X : Nat → Int) (len : Nat) (sr : Bool) (wr : World) : Prop :=
  ∃ m, PInv w.heap.size (.map m) (.slice none 0 0) sr wr ∧ GOut w.heap.size ga N C X len m wr ∧ Below w.heap.size w wr ∧ w.heap.size + 2 ≤ wr.heap.size

theorem GOut.same {B : Nat} {ga : Option Addr} {N : Nat → ByteArray} {C X : Nat → Int} {len : Nat} {m : Option Nat} {w w' : World} (h : GOut B ga N C X len m w) (hs : SameFrom (B + 2) w w') : GOut B ga N C X len m w' := by
  rcases h with h | ⟨h1, h2, h3⟩
  · exact .inl h
  · exact .inr ⟨h1, h2, h3.same hs⟩

/-- The last step: p is copied into the result's block. -/
theorem end_store {B : Nat} {u0 u1 u2 : Value} {w wr : World} {ga : Option Addr} {N : Nat → ByteArray} {C X : Nat → Int} {len : Nat} {m : Option Nat} (hG : GOut B ga N C X len m wr) (hbel : Below B w wr) :
    GOut B ga N C X len m (((wr.setCell ⟨B, 0, none⟩ u0).setCell ⟨B, 1, none⟩ u1).setCell ⟨B, 2, none⟩ u2) ∧ Below B w (((wr.setCell ⟨B, 0, none⟩ u0).setCell ⟨B, 1, none⟩ u1).setCell ⟨B, 2, none⟩ u2) :=
  ⟨hG.same ((((SameFrom.refl _ _).setCell (by simp) _).setCell (by simp) _).setCell (by simp) _), ((hbel.setCell (Nat.le_refl _) _).setCell (Nat.le_refl _) _).setCell (Nat.le_refl _) _⟩

/-- The state of the second loop: p stands, what lay from B + 2 on ahead of the bands' array is as it was, the array is there. -/
def BInv (B sb lenb : Nat) (m : Option Nat) (sr : Bool) (w wr0 wr : World) : Prop :=
  PInv B (.map m) (.slice (some ⟨sb, 0, none⟩) lenb lenb) sr wr ∧ SameFrom (B + 2) wr0 wr ∧ There wr sb (lenb * 4) ∧ Below B w wr ∧ sb < wr.heap.size

/-- The array has been made and stored in p. -/
theorem bands_start {B lenb : Nat} {m : Option Nat} {sr : Bool} {w wc w5 : World} {xs : List Value} (hP : PInv B (.map m) (.slice none 0 0) sr wc) (hbel : Below B w wc) (hsz : B + 2 ≤ wc.heap.size)
    (hown : w5.ownsRow (B + 2) 53 4 (.slice (some ⟨wc.heap.size, 0, none⟩) lenb lenb) lenb xs) (hgrow : wc.grownBy w5 none) :
    BInv B wc.heap.size lenb m sr w wc (w5.setCell ⟨B + 1, 1, none⟩ (.slice (some ⟨wc.heap.size, 0, none⟩) lenb lenb)) := by
  have ht := made_row hown
  have hl := (hown.lt _ rfl).2
  have hP5 : PInv B (.map m) (.slice none 0 0) sr w5 := hP.blocks (hgrow.block B (by omega) (by simp)) (hgrow.block (B + 1) (by omega) (by simp))
  obtain ⟨⟨c0, c1, c2⟩, cf, ct⟩ := hP5
  refine ⟨⟨⟨?_, ?_, ?_⟩, fun o => by simpa using cf o, ct.setCell _ _⟩, fun k h1 h2 => ?_, ht.setCell _ _, ((hbel.grown hgrow (by omega) (fun k hk => by cases hk)).setCell (by simp) _), by simpa using hl⟩
  · rw [cell_set_other (by omega)]; exact c0
  · exact World.cell?_setCell_same _ _ _ c1
  · rw [cell_set_other (by omega)]; exact c2
  · rw [Below.heap_setCell _ _ _ _ (by simp; omega)]
    exact hgrow.block k h2 (by simp)

/-- The array's cells behind the two calls. -/
theorem store_ready {sb a b c d : Nat} {wr w1 w2 : World} {y0 y1 y2 y3 : Value} (hb1 : Below wr.drew.heap.size wr.drew w1) (hb2 : Below w1.heap.size w1 w2) (hlt : sb < wr.heap.size)
    (h0 : wr.cell? ⟨sb, a, none⟩ = some y0) (h1 : wr.cell? ⟨sb, b, none⟩ = some y1) (h2 : wr.cell? ⟨sb, c, none⟩ = some y2) (h3 : wr.cell? ⟨sb, d, none⟩ = some y3) (hf : ∀ j, wr.frozen? ⟨sb, j, none⟩ = false) :
    (w2.cell? ⟨sb, a, none⟩ = some y0 ∧ w2.cell? ⟨sb, b, none⟩ = some y1 ∧ w2.cell? ⟨sb, c, none⟩ = some y2 ∧ w2.cell? ⟨sb, d, none⟩ = some y3) ∧ ∀ j, w2.frozen? ⟨sb, j, none⟩ = false := by
  have hb1' : Below wr.heap.size wr w1 := ⟨hb1.os, hb1.tape, hb1.output, hb1.size, hb1.block⟩
  have hb12 : Below wr.heap.size wr w2 := hb1'.trans (hb2.mono hb1'.size)
  exact ⟨⟨(hb12.cell (p := ⟨sb, a, none⟩) hlt).trans h0, (hb12.cell (p := ⟨sb, b, none⟩) hlt).trans h1, (hb12.cell (p := ⟨sb, c, none⟩) hlt).trans h2, (hb12.cell (p := ⟨sb, d, none⟩) hlt).trans h3⟩, fun j => (hb12.frozen (p := ⟨sb, j, none⟩) hlt).trans (hf j)⟩

/-- A ROUND OF THE SECOND LOOP. -/
theorem bands_round {B sb lenb k : Nat} {m : Option Nat} {sr : Bool} {w wr0 wr w1 w2 : World} {u0 u1 u2 u3 : Value} (h : BInv B sb lenb m sr w wr0 wr) (hsb : wr0.heap.size ≤ sb) (hB : B + 2 ≤ sb)
    (hb1 : Below wr.drew.heap.size wr.drew w1) (hb2 : Below w1.heap.size w1 w2) :
    BInv B sb lenb m sr w wr0 ((((w2.setCell ⟨sb, k * 4, none⟩ u0).setCell ⟨sb, k * 4 + 1, none⟩ u1).setCell ⟨sb, k * 4 + 2, none⟩ u2).setCell ⟨sb, k * 4 + 3, none⟩ u3) := by
  have hb1' : Below wr.heap.size wr w1 := ⟨hb1.os, hb1.tape, hb1.output, hb1.size, hb1.block⟩
  have hb12 : Below wr.heap.size wr w2 := hb1'.trans (hb2.mono hb1'.size)
  obtain ⟨hP, hS, hT, hbel, hlt⟩ := h
  have hs := hb12.size
  have e : ∀ j, j ≠ sb → ((((w2.setCell ⟨sb, k * 4, none⟩ u0).setCell ⟨sb, k * 4 + 1, none⟩ u1).setCell ⟨sb, k * 4 + 2, none⟩ u2).setCell ⟨sb, k * 4 + 3, none⟩ u3).heap[j]? = w2.heap[j]? := fun j hj => by
    rw [Below.heap_setCell _ _ _ _ (by simpa using hj), Below.heap_setCell _ _ _ _ (by simpa using hj), Below.heap_setCell _ _ _ _ (by simpa using hj), Below.heap_setCell _ _ _ _ (by simpa using hj)]
  refine ⟨hP.blocks ?_ ?_, fun j h1 h2 => ?_, ?_, ?_, ?_⟩
  · rw [e _ (by omega), hb12.block _ (by omega)]
  · rw [e _ (by omega), hb12.block _ (by omega)]
  · rw [e _ (by omega), hb12.block _ (by omega)]
    exact hS j h1 h2
  · exact ((((hT.same (SameFrom.of_below (lo := 0) hb12 (Nat.le_refl _)) (Nat.zero_le _) hlt).setCell _ _).setCell _ _).setCell _ _).setCell _ _
  · exact ((((hbel.trans (hb12.mono (by omega))).setCell (by simp; omega) _).setCell (by simp; omega) _).setCell (by simp; omega) _).setCell (by simp; omega) _
  · simp; omega

theorem mid_nil (w : World) (sr : Bool) (N : Nat → ByteArray) (C X : Nat → Int) :
    Mid w none N C X 0 sr ((w.alloc (.cells #[.map none, .slice none 0 0, .bool false] 31)).alloc (.cells #[.map none, .slice none 0 0, .bool sr] 31)) := by
  generalize hA : (Obj.cells #[.map none, .slice none 0 0, .bool false] 31) = A
  generalize hB : (Obj.cells #[.map none, .slice none 0 0, .bool sr] 31) = B
  have e0 : ((w.alloc A).alloc B).heap[w.heap.size]? = some A := heap_alloc2_old _ _ _
  have e1 : ((w.alloc A).alloc B).heap[w.heap.size + 1]? = some B := heap_alloc2_new _ _ _
  subst hA hB
  refine ⟨none, ⟨⟨?_, ?_, ?_⟩, ?_, ?_, ?_⟩, .inl ⟨rfl, rfl⟩, ?_, by simp⟩
  · rw [cell_of_row _ _ _ _ _ _ e1]; rfl
  · rw [cell_of_row _ _ _ _ _ _ e1]; rfl
  · rw [cell_of_row _ _ _ _ _ _ e1]; rfl
  · intro o; exact frozen_of_row _ _ _ _ _ e1
  · intro j hj
    rw [cell_of_row _ _ _ _ _ _ e0]
    exact ⟨_, Array.getElem?_eq_getElem (by simpa using hj)⟩
  · intro j; exact frozen_of_row _ _ _ _ _ e0
  · exact ((Below.refl _ _).alloc (Nat.le_refl _) _).alloc (by simp) _

set_option maxRecDepth 100000 in
set_option maxHeartbeats 1000000 in
theorem personal_any (ga ba : Option Addr) (len lenb : Nat) (N : Nat → ByteArray) (C X : Nat → Int) (F0 F1 F2 F3 : Nat → Int) (sr : Bool) (w : World)
    (hgr : GradesIn w ga len N C X) (hbd : BandsIn w ba lenb F0 F1 F2 F3) (hlen : (len : Int) ≤ 1048576) (hlenb : (lenb : Int) ≤ 1048576)
    (hN : ∀ i, i < len → (N i).size ≤ 1048576) (hC : ∀ i, i < len → -9223372036854775808 ≤ C i ∧ C i ≤ 9223372036854775807)
    (hF : ∀ i, i < lenb → (-9223372036854775808 ≤ F0 i ∧ F0 i ≤ 9223372036854775807) ∧ (-9223372036854775808 ≤ F2 i ∧ F2 i ≤ 9223372036854775807)) :
    Calls Tryf.prog 9 #[.slice ga len len, .slice ba lenb lenb, .bool sr] w (fun e w' => ∃ m so lb cb, e = .returned (.agg #[.map m, .slice so lb cb, .bool sr]) ∧ GOut w.heap.size ga N C X len m w' ∧ Below w.heap.size w w') := by
  have hn22 := fun (w : World) (a : Option Addr) (n c : Nat) => run_neq_slice_nil_any (P := Tryf.prog) w 22 41 a n c 0 0 Tryf.underlying22
  have hn23 := fun (w : World) (a : Option Addr) (n c : Nat) => run_neq_slice_nil_any (P := Tryf.prog) w 23 49 a n c 0 0 Tryf.underlying23
  have hmm := @run_makeMap Tryf.prog
  obtain ⟨i0, hi, hz0, hz1, hz2⟩ := info_parts Tryf.info53
  go_enter Tryf.func9, Tryf.ntmps9
  go_upto_if 13 with fail
  go_cut [8] (fun _ w' => Mid w ga N C X len sr w')
  case first =>
    rcases hgr with ⟨rfl, rfl⟩ | ⟨gb, rfl, hgb, hg⟩
    · go_wp2
      go_meet
      case rel => exact mid_nil w sr N C X
    · go_wp2_with go_in
      go_loopw [8] (fun i wr => ∃ k : Nat, k ≤ len ∧ i = .int .i64 k ∧ PInv w.heap.size (.map (some (w.heap.size + 2))) (.slice none 0 0) sr wr ∧ GInv w.heap.size N C X k wr ∧ Below w.heap.size w wr ∧ w.heap.size + 3 ≤ wr.heap.size) (fun i _ => len - (intOf i).toNat)
      case atStart => exact ⟨0, Nat.zero_le _, rfl, start_grades w sr N C X⟩
      case round =>
        obtain ⟨k, hk, rfl, hP, hG, hbel, hsz⟩ := hrel
        by_cases hlt : k < len
        · have HP := Hid.mk hP
          obtain ⟨⟨c0, c1, c2⟩, cf, ct⟩ := hP
          obtain ⟨s0, s1, s2⟩ := hg k hlt
          obtain ⟨hC1, hC2⟩ := hC k hlt
          rw [← hbel.cell (p := ⟨gb, k * 3, none⟩) hgb] at s0
          rw [← hbel.cell (p := ⟨gb, k * 3 + 1, none⟩) hgb] at s1
          rw [← hbel.cell (p := ⟨gb, k * 3 + 2, none⟩) hgb] at s2
          have hki : (0 : Int) ≤ (k : Int) := by omega
          have hki2 : (k : Int) < (len : Int) := by omega
          obtain ⟨D, PB, hown, hlook, hbigs⟩ := hG
          have HO := Hid.mk hown
          have HL := Hid.mk hlook
          have HB := Hid.mk hbigs
          have hkey : keyOf Tryf.prog 9 (.string (N k)) = some (keyl (N k)) := keyOf_string_mk Tryf.underlying9 (by have := hN k hlt; unfold maxLen; omega)
          have HK := Hid.mk hkey
          have hg2 : gb < wr.heap.size := by omega
          have hg3 : w.heap.size + 1 < wr.heap.size := by omega
          clear hown hlook hbigs ct hkey hN hC hg hF hbd
          go_wp2_with fail
          go_region_held3 (fun w' => w'.cell? ⟨w.heap.size + 1, 0, none⟩ = some (.map (some (w.heap.size + 2))) ∧ w'.cell? ⟨gb, k * 3, none⟩ = some (.string (N k)) ∧ w'.cell? ⟨gb, k * 3 + 1, none⟩ = some (.int .i64 (C k)) ∧ w'.cell? ⟨gb, k * 3 + 2, none⟩ = some (.int .i32 (X k))) (go_keep)
            (first | (go_at_call 17; refine (dec_any _ _ hC1 hC2 _).mono ?_; rintro e w1 ⟨pb, rfl, hbig, hb1⟩; have q0 := (hb1.cell (p := ⟨w.heap.size + 1, 0, none⟩) hg3).trans c0; have q1 := (hb1.cell (p := ⟨gb, k * 3, none⟩) hg2).trans s0; have q2 := (hb1.cell (p := ⟨gb, k * 3 + 1, none⟩) hg2).trans s1; have q3 := (hb1.cell (p := ⟨gb, k * 3 + 2, none⟩) hg2).trans s2; obtain ⟨w2, hrun, hown2, hgrow2⟩ := (ownsMap_same (w := wr.drew) HO.out.drew (SameFrom.of_below (lo := w.heap.size) hb1 (Nat.le_refl _)) (by omega)).update law9 Tryf.underlying28 (by unfold maxLen; omega) HK.out (decElem_mk pb (X k)); have r0 := hgrow2.cell q0 (by simp); have r1 := hgrow2.cell q1 (by simp; omega); have r2 := hgrow2.cell q2 (by simp; omega); have r3 := hgrow2.cell q3 (by simp; omega)))
          have R := round_grades HP.out HO.out HL.out HB.out hbel hsz hbig hb1 hown2 hgrow2
          clear hrun hown2 hgrow2 hbig hb1 q0 q1 q2 q3 r0 r1 r2 r3
          go_wp2
          go_roundw
          case rel => first | exact ⟨k + 1, by omega, by go_num, R⟩ | ((repeat apply Exists.intro); exact ⟨⟨k + 1, by omega, by go_num, R⟩, rfl⟩)
          case measure => simp [intOf]; omega
        · obtain rfl : k = len := by omega
          go_wp2
          go_meet
          case rel => exact ⟨_, hP, .inr ⟨by simp, rfl, hG⟩, hbel, by omega⟩
  case rest =>
    clear hgr hN hC
    obtain ⟨m, hP, hG, hbel, hsz⟩ := hcut
    rcases hbd with ⟨rfl, rfl⟩ | ⟨bb, rfl, hbb, hb⟩
    · obtain ⟨⟨c0, c1, c2⟩, cf, ct⟩ := hP
      obtain ⟨x0, hx0⟩ := ct.cell 0 (by omega)
      obtain ⟨x1, hx1⟩ := ct.cell 1 (by omega)
      obtain ⟨x2, hx2⟩ := ct.cell 2 (by omega)
      have hfr := ct.free
      have HG := Hid.mk hG
      have HT := Hid.mk ct
      clear ct hG
      go_wp2
      refine bodyPost_ret (v := .agg #[.map m, .slice none 0 0, .bool sr]) (by simp [results, Tryf.results9, go_sem, hx0, hx1, hx2]) rfl ⟨m, _, _, _, rfl, end_store HG.out hbel⟩
    · have HP := Hid.mk hP
      obtain ⟨⟨c0, c1, c2⟩, cf, ct⟩ := hP
      have HG := Hid.mk hG
      have HT := Hid.mk ct
      clear ct hG
      go_wp2_with (at_make; refine wpList_make_full _ rfl _ _ 29 rfl (w.heap.size + 2) 53 i0 _ 4 Tryf.underlying29 hi hz0 hz1 .i64 .i64 _ _ lenb rfl rfl rfl rfl (by rw [hz2]; omega) (by unfold maxLen; omega) (by omega) ?_; intro w5 hown5 hgrow5; have hstart := Hid.mk (bands_start HP.out hbel hsz hown5 hgrow5); have q1 := hgrow5.cell c1 (by simp); have q2 : w5.frozen? ⟨w.heap.size + 1, 1, none⟩ = false := ((World.frozen?_of_block (hgrow5.block (w.heap.size + 1) (by omega) (by simp))).trans (cf 1)); clear hown5 hgrow5)
      go_loopw [9] (fun i wr => ∃ k : Nat, k ≤ lenb ∧ i = .int .i64 k ∧ BInv w.heap.size wc.heap.size lenb m sr w wc wr) (fun i _ => lenb - (intOf i).toNat)
      case atStart => exact ⟨0, Nat.zero_le _, rfl, hstart.out⟩
      case round =>
        clear hstart q1 q2 c0 c1 c2 cf
        obtain ⟨k, hk, rfl, hB⟩ := hrel
        have HB := Hid.mk hB
        obtain ⟨hP, hS, hT, hbel2, hlt2⟩ := hB
        obtain ⟨⟨c0, c1, c2⟩, cf, ct⟩ := hP
        have hfr := ct.free
        by_cases hlt : k < lenb
        · obtain ⟨s0, s1, s2, s3⟩ := hb k hlt
          rw [← hbel2.cell (p := ⟨bb, k * 4, none⟩) hbb] at s0
          rw [← hbel2.cell (p := ⟨bb, k * 4 + 1, none⟩) hbb] at s1
          rw [← hbel2.cell (p := ⟨bb, k * 4 + 2, none⟩) hbb] at s2
          rw [← hbel2.cell (p := ⟨bb, k * 4 + 3, none⟩) hbb] at s3
          obtain ⟨⟨hA1, hA2⟩, hA3, hA4⟩ := hF k hlt
          have hki : (0 : Int) ≤ (k : Int) := by omega
          have hki2 : (k : Int) < (lenb : Int) := by omega
          have hs2 := hbel2.size
          have hg2 : bb < wr.heap.size := by omega
          have hg3 : w.heap.size + 1 < wr.heap.size := by omega
          have HTT := Hid.mk hT
          obtain ⟨y0, hy0⟩ := hT.cell (k * 4) (by omega)
          obtain ⟨y1, hy1⟩ := hT.cell (k * 4 + 1) (by omega)
          obtain ⟨y2, hy2⟩ := hT.cell (k * 4 + 2) (by omega)
          obtain ⟨y3, hy3⟩ := hT.cell (k * 4 + 3) (by omega)
          have hyf := hT.free
          have hne1 : ¬ wc.heap.size = w.heap.size + 1 := by omega
          have hne2 : ¬ wc.heap.size = bb := by omega
          clear ct hS hT hF hb hbel hfr cf
          go_wp2_with fail
          go_region_held3 (fun w' => w'.cell? ⟨w.heap.size + 1, 1, none⟩ = some (.slice (some ⟨wc.heap.size, 0, none⟩) lenb lenb) ∧ w'.cell? ⟨bb, k * 4, none⟩ = some (.int .i64 (F0 k)) ∧ w'.cell? ⟨bb, k * 4 + 1, none⟩ = some (.int .i32 (F1 k)) ∧ w'.cell? ⟨bb, k * 4 + 2, none⟩ = some (.int .i64 (F2 k)) ∧ w'.cell? ⟨bb, k * 4 + 3, none⟩ = some (.int .i32 (F3 k))) (go_keep)
            (first
              | (go_at_call_of 17 (F0 k); refine (dec_any _ _ hA1 hA2 _).mono ?_; rintro e w1 ⟨pb1, rfl, hbig1, hb1⟩; have q0 := (hb1.cell (p := ⟨w.heap.size + 1, 1, none⟩) hg3).trans c1; have q1 := (hb1.cell (p := ⟨bb, k * 4, none⟩) hg2).trans s0; have q2 := (hb1.cell (p := ⟨bb, k * 4 + 1, none⟩) hg2).trans s1; have q3 := (hb1.cell (p := ⟨bb, k * 4 + 2, none⟩) hg2).trans s2; have q4 := (hb1.cell (p := ⟨bb, k * 4 + 3, none⟩) hg2).trans s3)
              | (go_at_call_of 17 (F2 k); refine (dec_any _ _ hA3 hA4 _).mono ?_; rintro e w2 ⟨pb2, rfl, hbig2, hb2⟩; have l1 := hb1.size; have r0 := (hb2.cell (p := ⟨w.heap.size + 1, 1, none⟩) (Nat.lt_of_lt_of_le hg3 l1)).trans q0; have r1 := (hb2.cell (p := ⟨bb, k * 4, none⟩) (Nat.lt_of_lt_of_le hg2 l1)).trans q1; have r2 := (hb2.cell (p := ⟨bb, k * 4 + 1, none⟩) (Nat.lt_of_lt_of_le hg2 l1)).trans q2; have r3 := (hb2.cell (p := ⟨bb, k * 4 + 2, none⟩) (Nat.lt_of_lt_of_le hg2 l1)).trans q3; have r4 := (hb2.cell (p := ⟨bb, k * 4 + 3, none⟩) (Nat.lt_of_lt_of_le hg2 l1)).trans q4; obtain ⟨⟨z0, z1, z2, z3⟩, zf⟩ := store_ready hb1 hb2 hlt2 hy0 hy1 hy2 hy3 hyf))
          have R := fun (u0 u1 u2 u3 : Value) => Hid.mk (bands_round (k := k) (u0 := u0) (u1 := u1) (u2 := u2) (u3 := u3) HB.out (Nat.le_refl _) hsz hb1 hb2)
          clear hbig1 hbig2 hb1 hb2 q0 q1 q2 q3 q4 r0 r1 r2 r3 r4 z0 z1 z2 z3 zf l1
          go_wp2
          go_roundw
          case rel => first | exact ⟨k + 1, by omega, by go_num, (R _ _ _ _).out⟩ | ((repeat apply Exists.intro); exact ⟨⟨k + 1, by omega, by go_num, (R _ _ _ _).out⟩, rfl⟩)
          case measure => simp [intOf]; omega
        · obtain rfl : k = lenb := by omega
          obtain ⟨x0, hx0⟩ := ct.cell 0 (by omega)
          obtain ⟨x1, hx1⟩ := ct.cell 1 (by omega)
          obtain ⟨x2, hx2⟩ := ct.cell 2 (by omega)
          have HGO := Hid.mk (HG.out.same hS)
          clear ct hS hT
          go_wp2
          refine bodyPost_ret (v := .agg #[.map m, .slice (some ⟨wc.heap.size, 0, none⟩) k k, .bool sr]) (by simp [results, Tryf.results9, go_sem, hx0, hx1, hx2]) rfl ⟨m, _, _, _, rfl, end_store HGO.out hbel2⟩

end Go.Proofs.Qxb6604665aFmt
