/-
  DERIVED. stateWriter.uint, slices.Grow, stateWriter.int, ZZint.
-/
import Derived.Test.Qxb6604761aI
import Derived.Deep.RegionHeld3
namespace Go.Proofs.Qxb6604761a
open Go.RowKit
set_option linter.unusedVariables false

/-- n bytes as cells. -/
def cellsOf (n : Nat) (f : Nat → Nat) : List Value := (List.range n).map fun j => Value.int .u8 ((f j : Nat) : Int)
theorem cellsOf_length (n : Nat) (f : Nat → Nat) : (cellsOf n f).length = n := by simp [cellsOf]
theorem cellsOf_get {n : Nat} {f : Nat → Nat} {j : Nat} (hj : j < n) : (cellsOf n f)[j]? = some (Value.int .u8 ((f j : Nat) : Int)) := by simp [cellsOf, hj]

/-- THE WRITER's BUFFER: block h holds n bytes f, room for cap. -/
structure Buf (w : World) (base h n cap : Nat) (f : Nat → Nat) : Prop where
  ge : base ≤ h
  lt : h < w.heap.size
  own : OwnBlk w h cap
  le : n ≤ cap
  max : cap ≤ maxLen
  row : Row w h n f

theorem OwnBlk.cell {w : World} {h cap : Nat} (H : OwnBlk w h cap) (j : Nat) (hj : j < cap) : ∃ v, w.cell? ⟨h, j, none⟩ = some v := by
  obtain ⟨cur, h1, h2⟩ := H
  refine ⟨cur[j]'(by omega), ?_⟩
  simp [World.cell?, h1, show j < cur.size by omega]
theorem OwnBlk.free {w : World} {h cap : Nat} (H : OwnBlk w h cap) (j : Nat) : w.frozen? ⟨h, j, none⟩ = false := by
  obtain ⟨cur, h1, h2⟩ := H
  simp [World.frozen?, h1]
theorem OwnBlk.lt {w : World} {h cap : Nat} (H : OwnBlk w h cap) : h < w.heap.size := by
  obtain ⟨cur, h1, h2⟩ := H
  exact (Array.getElem?_eq_some_iff.1 h1).1

theorem Buf.of_own {w : World} {base n : Nat} {v : Value} {xs : List Value} {f : Nat → Nat} (H : w.ownsRow base 5 1 v n xs) (hn : 0 < n) (hx : ∀ j, j < n → xs[j]? = some (.int .u8 ((f j : Nat) : Int))) :
    ∃ h cap, v = .slice (some ⟨h, 0, none⟩) n cap ∧ Buf w base h n cap f := by
  have H0 := H
  rcases H.2 with ⟨_, h0⟩ | ⟨g, cap, cur, rfl, h2, h3, h4, h5, h6, h7⟩
  · omega
  · exact ⟨g, cap, rfl, h2, (Array.getElem?_eq_some_iff.1 h3).1, ⟨cur, h3, by omega⟩, h4, h5, fun j hj => by rw [H0.cellAt j (by omega)]; exact hx j hj⟩

/-- WHAT uint IS GOOD FOR. -/
def UintSaid (sb n : Nat) (F : Nat → Nat) (w : World) (w' : World) : Prop :=
  ∃ w1 h cap, Below w.heap.size w w1 ∧ Buf w1 w.heap.size h n cap F ∧ w' = w1.setCell ⟨sb, 0, none⟩ (.slice (some ⟨h, 0, none⟩) n cap)

/-- b's bytes, then x's varint. -/
def join (n : Nat) (f g : Nat → Nat) (j : Nat) : Nat := if j < n then f j else g (j - n)

theorem join_cells (n x : Nat) (f : Nat → Nat) (j : Nat) (hj : j < n + (Lib.uvarint x).length) : (cellsOf n f ++ Lib.byteCells (Lib.uvarint x))[j]? = some (.int .u8 ((join n f (vb x) j : Nat) : Int)) := by
  unfold join
  split
  next h => rw [List.getElem?_append_left (by rw [cellsOf_length]; exact h), cellsOf_get h]
  next h =>
    obtain ⟨h1, h2⟩ := vb_get (j - n) x (by unfold vlen; omega)
    rw [List.getElem?_append_right (by rw [cellsOf_length]; omega), cellsOf_length]
    simp only [Lib.byteCells, List.getElem?_map, List.getElem?_eq_getElem h1, Option.map_some]
    rw [h2]

set_option maxRecDepth 100000 in
set_option maxHeartbeats 400000 in
theorem uint_any (sb n x : Nat) (ao : Option Addr) (f : Nat → Nat) (hx : x < 18446744073709551616) (w : World) (hs : sb < w.heap.size) (hc : w.cell? ⟨sb, 0, none⟩ = some (.slice ao n n)) (hfz : ∀ j, w.frozen? ⟨sb, j, none⟩ = false) (hnone : ao = none → n = 0) (hg : ∀ b, ao = some b → b = ⟨b.block, 0, none⟩ ∧ b.block < w.heap.size ∧ Row w b.block n f) (hn : n ≤ 1048576) :
    Calls Try.prog 25 #[.pointer (some ⟨sb, 0, none⟩), .int .u64 x] w (fun e w' => e = .returned (.tuple #[]) ∧ UintSaid sb (n + vlen x) (join n f (vb x)) w w') := by
  have HG := Hid.mk hg
  have HN := Hid.mk hnone
  clear hg hnone
  have hl := vlen_pos x
  go_enter Try.func25, Try.ntmps25
  go_wp2_with fail
  refine (uv_full ao n x hx (cellsOf n f) w HN.out (cellsOf_length n f) (fun b hb => ?_) (by omega)).mono ?_
  · obtain ⟨e, h1, h2⟩ := HG.out b hb
    refine ⟨h1, fun j u hj => ?_⟩
    have hjn : j < n := by have := (List.getElem?_eq_some_iff.1 hj).1; rw [cellsOf_length] at this; exact this
    rw [cellsOf_get hjn] at hj
    rw [e, ← hj]
    have := h2 j hjn
    unfold Addr.add
    split
    · subst_vars; exact this
    · simpa using this
  · rintro e w1 ⟨v, rfl, hown, hb⟩
    obtain ⟨h, cap, rfl, hbuf⟩ := Buf.of_own (f := join n f (vb x)) hown (by have : vlen x = (Lib.uvarint x).length := rfl; omega) (fun j hj => join_cells n x f j hj)
    have s1 := (hb.cell (p := ⟨sb, 0, none⟩) hs).trans hc
    have z1 := fun j => (hb.frozen (p := ⟨sb, j, none⟩) hs).trans (hfz j)
    have HB := Hid.mk hbuf
    clear hown hbuf
    go_wp2
    go_end0
    exact ⟨rfl, w1, h, cap, hb, HB.out, rfl⟩

/-- WHAT slices.Grow IS GOOD FOR. -/
def GrowSaid (base n L : Nat) (F : Nat → Nat) (w : World) (e : Ending) (w' : World) : Prop :=
  ∃ h cap, e = .returned (.slice (some ⟨h, 0, none⟩) n cap) ∧ Buf w' base h n cap F ∧ n + L ≤ cap ∧ Below w.heap.size w w'

theorem grow_any (base h n cap L : Nat) (F : Nat → Nat) (w : World) (hB : Buf w base h n cap F) (hsz : base ≤ w.heap.size) (hn : n ≤ 1048576) (hL : L ≤ 1048576) :
    Calls Try.prog 26 #[.slice (some ⟨h, 0, none⟩) n cap, .int .i64 L] w (GrowSaid base n L F w) := by
  have hmx := hB.max
  unfold maxLen at hmx
  by_cases hr : n + L ≤ cap
  · refine (Any8.slices_Grow_room Try.grow26 (some ⟨h, 0, none⟩) n cap L w hB.le (by omega) (by omega) hr).mono ?_
    rintro e w' ⟨rfl, rfl⟩
    exact ⟨h, cap, rfl, hB, hr, Below.refl _ _⟩
  · obtain ⟨i0, hi, hz0, hz1, hz2⟩ := info_parts Try.info5
    obtain ⟨cur, h1, h2⟩ := hB.own
    refine (Any8.slices_Grow_grow Try.grow26 i0 (.int .u8 0) hi hz0 (by omega) (some ⟨h, 0, none⟩) n cap L cur.toList w hB.le (by omega) (by rw [hz2]; omega) (by omega) (by simp [h2, hz1]) (fun h => by cases h) (fun a ha j v hj => ?_)).mono ?_
    · cases ha
      have hj' : cur[j]? = some v := by simpa using hj
      unfold Addr.add
      split
      · next e => subst e; simpa [World.cell?, h1] using hj'
      · simpa [World.cell?, h1] using hj'
    · rintro e w' ⟨rfl, rfl⟩
      have hb : Below w.heap.size w (w.drew.alloc (Obj.cells (cur.toList.toArray ++ Builtin.zeroCells (Value.int .u8 0).cells (n + L - cap) ++ Builtin.zeroCells (Value.int .u8 0).cells (grownCap w (n + L) cap (Try.grow26_ren.t 25) - (n + L))) (Try.grow26_ren.t 25))) := ((Below.refl w.heap.size w).drew).alloc (Nat.le_refl _) _
      refine ⟨w.heap.size, _, rfl, ⟨hsz, ?_, ⟨_, heap_alloc_new _ _, ?_⟩, ?_, ?_, ?_⟩, grownCap_ge _ _ _ _, hb⟩
      · simp
      · have hge := grownCap_ge w (n + L) cap (Try.grow26_ren.t 25)
        simp only [Array.size_append, size_zeroCells, h2, show (Value.int .u8 0).cells.size = 1 from rfl]
        omega
      · have hge := grownCap_ge w (n + L) cap (Try.grow26_ren.t 25)
        omega
      · exact grownCap_le_maxLen _ _ _ _ (by unfold maxLen; omega)
      · intro j hj
        have hle := hB.le
        have hr0 := hB.row j hj
        have e := World.cell?_alloc_at (w := w.drew) (cur.toList.toArray ++ Builtin.zeroCells (Value.int .u8 0).cells (n + L - cap) ++ Builtin.zeroCells (Value.int .u8 0).cells (grownCap w (n + L) cap (Try.grow26_ren.t 25) - (n + L))) (Try.grow26_ren.t 25) w.heap.size j rfl
        rw [e, Array.getElem?_append_left (by simp only [Array.size_append, List.size_toArray, Array.length_toList]; omega), Array.getElem?_append_left (by simp only [List.size_toArray, Array.length_toList]; omega), ← hr0]
        simp [World.cell?, h1]

end Go.Proofs.Qxb6604761a
