/-
  DERIVED. WHAT CAME IN: the grades and the bands, read as data, as the walks take them.
-/
import Derived.Test.Qxb6604665aFmtI
import Derived.Deep.Slices
import Derived.ChangeArms
import Derived.OpenShut
import Derived.ProofKit
namespace Go.Proofs.Qxb6604665aFmt
open Go.ChangeShapes Go.WideShapes Go.ChangeAt Go.RowKit
set_option linter.unusedVariables false

theorem cells41 : Tryf.prog.cellsOf 41 = 3 := by kernel_rfl
theorem cells49 : Tryf.prog.cellsOf 49 = 4 := by kernel_rfl
theorem cells9 : Tryf.prog.cellsOf 9 = 1 := by kernel_rfl
theorem cells2 : Tryf.prog.cellsOf 2 = 1 := by kernel_rfl
theorem cells21 : Tryf.prog.cellsOf 21 = 1 := by kernel_rfl

theorem len3 {α : Type} {l : List α} (h : l.length = 3) : ∃ a b c, l = [a, b, c] := by
  match l, h with
  | [a, b, c], _ => exact ⟨a, b, c, rfl⟩
theorem len4 {α : Type} {l : List α} (h : l.length = 4) : ∃ a b c d, l = [a, b, c, d] := by
  match l, h with
  | [a, b, c, d], _ => exact ⟨a, b, c, d, rfl⟩

section
variable {H : Type} {enc : TypeId × Value → H} {w : World} {base : Nat} {spare : Nat → Bool} {held : Bool}

theorem grade_elem {n : Nat} {cs : List Value} {x : DataW H × List MemPlace} (h : DataW.trod enc Tryf.prog w base spare held n 41 cs = some x) :
    ∃ (s : ByteArray) (c e : Int), cs = [.string s, .int .i64 c, .int .i32 e] ∧ -9223372036854775808 ≤ c ∧ c ≤ 9223372036854775807 := by
  obtain ⟨xs, m, _, _, hl, hlen, hf⟩ := DataW.trod_struct Tryf.underlying41 h
  rw [cells41] at hl
  have h0 : DataW.trod enc Tryf.prog w base spare held m 9 ((cs.drop 0).take (Tryf.prog.cellsOf 9)) = xs[0]? := hf 0 _ rfl
  have h1 : DataW.trod enc Tryf.prog w base spare held m 2 ((cs.drop 1).take (Tryf.prog.cellsOf 2)) = xs[1]? := hf 1 _ rfl
  have h2 : DataW.trod enc Tryf.prog w base spare held m 21 ((cs.drop 2).take (Tryf.prog.cellsOf 21)) = xs[2]? := hf 2 _ rfl
  obtain ⟨v0, v1, v2, rfl⟩ := len3 hl
  obtain ⟨y0, y1, y2, rfl⟩ := len3 (show xs.length = 3 from hlen)
  · simp only [cells9, cells2, cells21, List.drop_zero, List.drop_succ_cons, List.take_succ_cons, List.take_zero] at h0 h1 h2
    obtain ⟨s, e0, _, _⟩ := DataW.trod_string Tryf.underlying9 h0
    obtain ⟨c, e1, _, wc⟩ := DataW.trod_int Tryf.underlying2 h1
    obtain ⟨e, e2, _, _⟩ := DataW.trod_int Tryf.underlying21 h2
    simp at e0 e1 e2
    subst e0 e1 e2
    have := bounds_i64 wc
    exact ⟨s, c, e, rfl, this.1, this.2⟩

theorem band_elem {n : Nat} {cs : List Value} {x : DataW H × List MemPlace} (h : DataW.trod enc Tryf.prog w base spare held n 49 cs = some x) :
    ∃ (f0 f1 f2 f3 : Int), cs = [.int .i64 f0, .int .i32 f1, .int .i64 f2, .int .i32 f3] ∧ (-9223372036854775808 ≤ f0 ∧ f0 ≤ 9223372036854775807) ∧ (-9223372036854775808 ≤ f2 ∧ f2 ≤ 9223372036854775807) := by
  obtain ⟨xs, m, _, _, hl, hlen, hf⟩ := DataW.trod_struct Tryf.underlying49 h
  rw [cells49] at hl
  have h0 : DataW.trod enc Tryf.prog w base spare held m 2 ((cs.drop 0).take (Tryf.prog.cellsOf 2)) = xs[0]? := hf 0 _ rfl
  have h1 : DataW.trod enc Tryf.prog w base spare held m 21 ((cs.drop 1).take (Tryf.prog.cellsOf 21)) = xs[1]? := hf 1 _ rfl
  have h2 : DataW.trod enc Tryf.prog w base spare held m 2 ((cs.drop 2).take (Tryf.prog.cellsOf 2)) = xs[2]? := hf 2 _ rfl
  have h3 : DataW.trod enc Tryf.prog w base spare held m 21 ((cs.drop 3).take (Tryf.prog.cellsOf 21)) = xs[3]? := hf 3 _ rfl
  obtain ⟨v0, v1, v2, v3, rfl⟩ := len4 hl
  obtain ⟨y0, y1, y2, y3, rfl⟩ := len4 (show xs.length = 4 from hlen)
  · simp only [cells2, cells21, List.drop_zero, List.drop_succ_cons, List.take_succ_cons, List.take_zero] at h0 h1 h2 h3
    obtain ⟨f0, e0, _, w0⟩ := DataW.trod_int Tryf.underlying2 h0
    obtain ⟨f1, e1, _, _⟩ := DataW.trod_int Tryf.underlying21 h1
    obtain ⟨f2, e2, _, w2⟩ := DataW.trod_int Tryf.underlying2 h2
    obtain ⟨f3, e3, _, _⟩ := DataW.trod_int Tryf.underlying21 h3
    simp at e0 e1 e2 e3
    subst e0 e1 e2 e3
    have b0 := bounds_i64 w0
    have b2 := bounds_i64 w2
    exact ⟨f0, f1, f2, f3, rfl, b0, b2⟩

/-- THE GRADES, OPENED. -/
theorem open_grades {fuel : Nat} {a : Option Addr} {len cap : Nat} {x : DataW H × List MemPlace} (h : DataW.trod enc Tryf.prog w base (fun _ => true) held fuel 22 [.slice a len cap] = some x) :
    ∃ N C X, InG a len cap N C X w := by
  rcases Go.Deep.open_slice Tryf.underlying22 h with ⟨hcs, _⟩ | ⟨ad, len', cap', m, n, D, Pl, hcs, hb, hl, hm, hmm, _, hx⟩
  · simp at hcs
    obtain ⟨rfl, rfl, rfl⟩ := hcs
    exact ⟨fun _ => ByteArray.empty, fun _ => 0, fun _ => 0, ⟨.inl (by omega), fun _ => ⟨rfl, rfl⟩, Nat.zero_le _, fun i hi => absurd hi (Nat.not_lt_zero _)⟩⟩
  · simp at hcs
    obtain ⟨rfl, rfl, rfl⟩ := hcs
    simp only [if_true] at hmm
    subst hmm
    have one : ∀ i, i < len → ∃ t : ByteArray × Int × Int, (w.cell? (ad.add (i * 3)) = some (.string t.1) ∧ w.cell? (ad.add (i * 3 + 1)) = some (.int .i64 t.2.1) ∧ w.cell? (ad.add (i * 3 + 2)) = some (.int .i32 t.2.2)) ∧ -9223372036854775808 ≤ t.2.1 ∧ t.2.1 ≤ 9223372036854775807 := by
      intro i hi
      obtain ⟨cs', h1, h2⟩ := hx i (by omega)
      obtain ⟨s, c, e, rfl, b1, b2⟩ := grade_elem h2
      rw [cells41] at h1
      obtain ⟨_, _, hc⟩ := World.cells?_some h1
      have c0 := hc 0 (by omega)
      have c1 := hc 1 (by omega)
      have c2 := hc 2 (by omega)
      simp only [Go.Deep.add_add] at c0 c1 c2
      exact ⟨(s, c, e), ⟨c0, c1, c2⟩, b1, b2⟩
    obtain ⟨f, hf⟩ := Go.Deep.choose_lt one
    refine ⟨fun i => (f i).1, fun i => (f i).2.1, fun i => (f i).2.2, ⟨?_, (fun h => by cases h), Nat.le_trans hl hm, fun i hi => (hf i hi).2⟩⟩
    by_cases h0 : len < 1
    · exact .inl h0
    · right
      obtain ⟨b, off, spot⟩ := ad
      have hspot : spot = none := by simpa [Addr.add] using World.cell?_spot (hf 0 (by omega)).1.1
      subst hspot
      have hlt : b < w.heap.size := by simpa using World.block_lt_of_cell? w _ (show w.cell? ⟨b, off, none⟩ = _ by simpa [Addr.add] using (hf 0 (by omega)).1.1)
      refine ⟨b, off, rfl, hlt, fun i hi => ?_⟩
      obtain ⟨⟨c0, c1, c2⟩, _⟩ := hf i hi
      rw [add_plain] at c0 c1 c2
      exact ⟨c0, c1, c2⟩

/-- THE BANDS, OPENED. -/
theorem open_bands {fuel : Nat} {a : Option Addr} {len cap : Nat} {x : DataW H × List MemPlace} (h : DataW.trod enc Tryf.prog w base (fun _ => true) held fuel 23 [.slice a len cap] = some x) :
    ∃ F0 F1 F2 F3, InB a len cap F0 F1 F2 F3 w := by
  rcases Go.Deep.open_slice Tryf.underlying23 h with ⟨hcs, _⟩ | ⟨ad, len', cap', m, n, D, Pl, hcs, hb, hl, hm, hmm, _, hx⟩
  · simp at hcs
    obtain ⟨rfl, rfl, rfl⟩ := hcs
    exact ⟨fun _ => 0, fun _ => 0, fun _ => 0, fun _ => 0, ⟨.inl (by omega), fun _ => ⟨rfl, rfl⟩, Nat.zero_le _, fun i hi => absurd hi (Nat.not_lt_zero _)⟩⟩
  · simp at hcs
    obtain ⟨rfl, rfl, rfl⟩ := hcs
    simp only [if_true] at hmm
    subst hmm
    have one : ∀ i, i < len → ∃ t : Int × Int × Int × Int, (w.cell? (ad.add (i * 4)) = some (.int .i64 t.1) ∧ w.cell? (ad.add (i * 4 + 1)) = some (.int .i32 t.2.1) ∧ w.cell? (ad.add (i * 4 + 2)) = some (.int .i64 t.2.2.1) ∧ w.cell? (ad.add (i * 4 + 3)) = some (.int .i32 t.2.2.2)) ∧ (-9223372036854775808 ≤ t.1 ∧ t.1 ≤ 9223372036854775807) ∧ (-9223372036854775808 ≤ t.2.2.1 ∧ t.2.2.1 ≤ 9223372036854775807) := by
      intro i hi
      obtain ⟨cs', h1, h2⟩ := hx i (by omega)
      obtain ⟨f0, f1, f2, f3, rfl, b0, b2⟩ := band_elem h2
      rw [cells49] at h1
      obtain ⟨_, _, hc⟩ := World.cells?_some h1
      have c0 := hc 0 (by omega)
      have c1 := hc 1 (by omega)
      have c2 := hc 2 (by omega)
      have c3 := hc 3 (by omega)
      simp only [Go.Deep.add_add] at c0 c1 c2 c3
      exact ⟨(f0, f1, f2, f3), ⟨c0, c1, c2, c3⟩, b0, b2⟩
    obtain ⟨f, hf⟩ := Go.Deep.choose_lt one
    refine ⟨fun i => (f i).1, fun i => (f i).2.1, fun i => (f i).2.2.1, fun i => (f i).2.2.2, ⟨?_, (fun h => by cases h), Nat.le_trans hl hm, fun i hi => (hf i hi).2⟩⟩
    by_cases h0 : len < 1
    · exact .inl h0
    · right
      obtain ⟨b, off, spot⟩ := ad
      have hspot : spot = none := by simpa [Addr.add] using World.cell?_spot (hf 0 (by omega)).1.1
      subst hspot
      have hlt : b < w.heap.size := by simpa using World.block_lt_of_cell? w _ (show w.cell? ⟨b, off, none⟩ = _ by simpa [Addr.add] using (hf 0 (by omega)).1.1)
      refine ⟨b, off, rfl, hlt, fun i hi => ?_⟩
      obtain ⟨⟨c0, c1, c2, c3⟩, _⟩ := hf i hi
      rw [add_plain] at c0 c1 c2 c3
      exact ⟨c0, c1, c2, c3⟩
end

end Go.Proofs.Qxb6604665aFmt
