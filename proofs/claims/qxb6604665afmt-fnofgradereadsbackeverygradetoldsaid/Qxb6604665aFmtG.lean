/-
  DERIVED. (Personal).OfGrade.
-/
import Derived.Test.Qxb6604665aFmtF
import Derived.Test.Qxb6604665aFmtShelf
import Derived.Test.Qxb6604665aFmtIter
namespace Go.Proofs.Qxb6604665aFmt
open Go.RowKit Go.Maps Go.Sort Go.Extern.Stop Go.Stop Go.Extern
open Go.WideMaps (keyOf_string_mk)
set_option linter.unusedVariables false

theorem zero35 (w : World) : (zeroValue 35).run Tryf.prog w = .ok (.agg #[.pointer none, .int .i32 0]) w := by kernel_rfl

set_option maxRecDepth 100000 in
set_option maxHeartbeats 400000 in
theorem ofGrade_hit (b n : Nat) (sl : Value) (sr : Bool) (gr : ByteArray) (D : DataW Unit) (w : World) (hown : w.ownsMap Tryf.prog 9 decElem b n D) (hs : gr.size ≤ maxLen) (pb : Nat) (ex : Int)
    (hhas : Maps.has D (keyl gr) = true) (hat : D.atKey (keyl gr) .nil = dd pb ex) :
    Calls Tryf.prog 10 #[.agg #[.map (some b), sl, .bool sr], .string gr] w fun e w' => e = .returned (.tuple #[.agg #[.pointer (some ⟨pb, 0, none⟩), .int .i32 ex], .nilIface]) ∧ Below w.heap.size w w' := by
  have hn := fun (w : World) (r : Option Nat) => run_eql_map_nil (P := Tryf.prog) w 28 9 35 r Tryf.underlying28
  have HH := Hid.mk hhas
  have HA := Hid.mk hat
  clear hhas hat
  go_enter Tryf.func10, Tryf.ntmps10
  go_wp2_with (at_lookup; refine wpList_lookup_own_ok _ rfl _ _ 28 rfl 9 35 law9 Tryf.underlying28 decElem (zero35 _) .nil [] decElem_zero b n D rfl ((hown.alloc _).alloc _) (.string gr) (keyl gr) rfl (keyOf_string_mk Tryf.underlying9 hs) ?_; intro v ps hv; rw [HA.out] at hv; rw [decElem_dd hv, HH.out]; clear hv)
  refine bodyPost_ret (v := .tuple #[.agg #[.pointer (some ⟨pb, 0, none⟩), .int .i32 ex], .nilIface]) (by simp [results, Tryf.results10, go_sem]) rfl ⟨rfl, ?_⟩
  exact (((RowKit.Below.refl _ _).alloc (Nat.le_refl _) _).alloc (by simp) _).alloc (by simp; omega) _

theorem new_cell (w : World) (a b : Obj) (c : Array Value) (t : TypeId) (i : Nat) : (((w.alloc a).alloc b).alloc (.cells c t)).cell? ⟨w.heap.size + 1 + 1, i, none⟩ = c[i]? :=
  World.cell?_alloc_at c t _ i (by simp)

/-- The zero Decimal and an error. -/
def MissSaid (w : World) (e : Ending) (w' : World) : Prop := ∃ eb, e = .returned (.tuple #[.agg #[.pointer none, .int .i32 0], .iface 78 (.pointer (some ⟨eb, 0, none⟩))]) ∧ RowKit.Below w.heap.size w w'

set_option maxRecDepth 100000 in
set_option maxHeartbeats 400000 in
theorem ofGrade_nil (F : Interp) (sl : Value) (sr : Bool) (gr : ByteArray) (w : World) (hF : F.answers w.tape) :
    Calls Tryf.prog 10 #[.agg #[.map none, sl, .bool sr], .string gr] w (MissSaid w) := by
  have hn := fun (w : World) (r : Option Nat) => run_eql_map_nil (P := Tryf.prog) w 28 9 35 r Tryf.underlying28
  go_enter Tryf.func10, Tryf.ntmps10
  go_wp2_with fail
  refine (errorf_one F (w.heap.size + 1 + 1) gr _ (by exact hF) (by exact new_cell w _ _ _ _ 0)).mono ?_
  rintro e w1 ⟨rfl, hb1⟩
  obtain ⟨hc, hf⟩ := bcell hb1
  go_wp2
  refine bodyPost_ret (v := .tuple #[.agg #[.pointer none, .int .i32 0], .iface 78 (.pointer (some ⟨w.heap.size + 1 + 1 + 1, 0, none⟩))]) (by simp [results, Tryf.results10, go_sem, hc]) rfl ⟨_, rfl, ?_⟩
  have b3 : RowKit.Below w.heap.size w (((w.alloc (Obj.cells #[Value.map none, sl, Value.bool sr] 31)).alloc (Obj.cells #[Value.pointer none, Value.int IntKind.i32 0] 35)).alloc (Obj.cells #[Value.iface 9 (Value.string gr)] 20)) :=
    (((RowKit.Below.refl _ _).alloc (Nat.le_refl _) _).alloc (by simp) _).alloc (by simp; omega) _
  exact ((b3.trans (hb1.mono (by simp; omega))).setCell (by simp) _).setCell (by simp) _

theorem strKeys_len (D : DataW Unit) : (strKeys D).length = Maps.size D := by cases D <;> simp [strKeys, Maps.size]

theorem lens_le (xs : List (List UInt8)) (h : ∀ x ∈ xs, x.length ≤ 1048576) : Lib.lens xs ≤ xs.length * 1048576 := by
  induction xs with
  | nil => simp [Lib.lens]
  | cons x r ih =>
    have h1 := h x (by simp)
    have h2 := ih fun y hy => h y (by simp [hy])
    simp only [Lib.lens, List.map_cons, List.sum_cons, List.length_cons] at *
    omega

theorem join_len (xs : List (List UInt8)) (sep : List UInt8) (hsep : sep.length ≤ 2) (hn : xs.length ≤ 1048576) (h : ∀ x ∈ xs, x.length ≤ 1048576) : (Lib.join xs sep).length ≤ 140737488355328 := by
  cases xs with
  | nil => simp [Lib.join]
  | cons x r =>
    rw [Lib.join_length]
    have h1 := lens_le (x :: r) h
    have h2 : sep.length * r.length ≤ 2 * r.length := Nat.mul_le_mul_right _ hsep
    simp only [List.length_cons] at *
    have h3 : (r.length + 1) * 1048576 ≤ 1048576 * 1048576 := Nat.mul_le_mul_right _ hn
    omega

/-- strings.Join at a slice that the call owns: some string comes back. -/
theorem join_any (base n : Nat) (v : Value) (ts : List (List UInt8)) (sep : ByteArray) (w : World) (hrow : w.ownsRow base 9 1 v n (ts.map encStr)) (hl : ts.length = n) (hn : ts.length ≤ 1048576) (hsep : sep.size ≤ 2) (hlen : ∀ x ∈ ts, x.length ≤ 1048576) :
    Calls Tryf.prog 19 #[v, .string sep] w fun e w' => ∃ s, e = .returned (.string s) ∧ RowKit.Below w.heap.size w w' := by
  have hrow' := hrow
  obtain ⟨_, ⟨rfl, rfl⟩ | ⟨g, cap, cur, rfl, hb, hg, hc, hm, hsz, htk⟩⟩ := hrow
  · refine (Tryf.strings_Join_none none 0 sep w).mono ?_
    rintro e w' ⟨rfl, rfl⟩
    exact ⟨_, rfl, RowKit.Below.refl _ _⟩
  · have e1 : ((ts.map fun l => (⟨l.toArray⟩ : ByteArray)).map (·.data.toList)) = ts := by simp [List.map_map, Function.comp_def]
    have hlt : g < w.heap.size := (Array.getElem?_eq_some_iff.1 hg).1
    have hcap := Tryf.strings_Join g 0 cap (ts.map fun l => (⟨l.toArray⟩ : ByteArray)) sep w (fun j x hj => by
      rw [List.getElem?_map] at hj
      obtain ⟨l, hl1, rfl⟩ := Option.map_eq_some_iff.1 hj
      have hjl := (List.getElem?_eq_some_iff.1 hl1).1
      rw [Nat.zero_add, hrow'.cellAt j (by omega), List.getElem?_map, hl1]
      rfl) hlt (by simp; omega) (by simp; omega) (by rw [e1]; exact join_len ts _ (by simpa using hsep) hn hlen)
    simp only [List.length_map, hl] at hcap
    refine hcap.mono ?_
    rintro e w' ⟨rfl, h⟩
    exact ⟨_, rfl, h⟩

/-- slices.Sorted over maps.Keys, the iterator's block by a letter. -/
theorem sorted_keys (N b nn : Nat) (D0 : DataW Unit) (w : World) (hN : w.heap.size = N) (hown : w.ownsMap Tryf.prog 9 decElem b nn D0) (hmax : Maps.size D0 ≤ maxLen) (hbytes : Maps.size D0 * 16 ≤ 140737488355328) :
    Calls Tryf.prog 20 #[.func (.func 32) #[] #[.pointer (some ⟨N, 0, none⟩)]] (w.alloc (.cells #[.map (some b)] 28)) fun e w' => ∃ (v : Value) (ss : List (List UInt8)), e = .returned v ∧ ss.Perm (strKeys D0) ∧
      w'.ownsRow (N + 1) 9 1 v ss.length ((ss.mergeSort (fun x y => decide (x ≤ y))).map encStr) ∧ RowKit.Below (N + 1) (w.alloc (.cells #[.map (some b)] 28)) w' := by
  subst hN
  refine (callsIn_wide.1 (Tryf.slices_Sorted_keys_20_21 b nn D0 decElem w hown hmax hbytes)).mono ?_
  rintro e w' ⟨v, ss, rfl, h1, h2, h3, h4⟩
  simp only [World.size_alloc] at h2 h4
  exact ⟨v, ss, rfl, h1, h2, h4⟩

theorem miss_end {w w5 w6 w7 : World} {A C' D' E' : Obj} (hb5 : RowKit.Below (w.heap.size + 1 + 1 + 1 + 1) ((((w.alloc A).alloc (.cells #[.pointer none, .int .i32 0] 35)).alloc C').alloc D') w5) (hb6 : RowKit.Below w5.heap.size w5 w6)
    (hb7 : RowKit.Below (w6.alloc E').heap.size (w6.alloc E') w7) :
    w7.cell? ⟨w.heap.size + 1, 0, none⟩ = some (.pointer none) ∧ w7.cell? ⟨w.heap.size + 1, 1, none⟩ = some (.int .i32 0) ∧ (∀ o, w7.frozen? ⟨w.heap.size + 1, o, none⟩ = false) ∧ RowKit.Below w.heap.size w w7 := by
  have hs5 : w.heap.size + 1 + 1 + 1 + 1 ≤ w5.heap.size := by have := hb5.size; simpa using this
  have hs6 := hb6.size
  have e4 : ((((w.alloc A).alloc (.cells #[.pointer none, .int .i32 0] 35)).alloc C').alloc D').heap[w.heap.size + 1]? = some (.cells #[.pointer none, .int .i32 0] 35) := by
    rw [heap_alloc_old _ _ (by simp), heap_alloc_old _ _ (by simp), heap_alloc2_new]
  have e7 : w7.heap[w.heap.size + 1]? = some (.cells #[.pointer none, .int .i32 0] 35) := by
    rw [hb7.block _ (by simp; omega), heap_alloc_old _ _ (by omega), hb6.block _ (by omega), hb5.block _ (by omega), e4]
  refine ⟨by rw [cell_of_row _ _ _ _ _ _ e7]; rfl, by rw [cell_of_row _ _ _ _ _ _ e7]; rfl, fun o => frozen_of_row _ _ _ _ _ e7, ?_⟩
  have b4 : RowKit.Below w.heap.size w ((((w.alloc A).alloc (.cells #[.pointer none, .int .i32 0] 35)).alloc C').alloc D') :=
    ((((RowKit.Below.refl _ _).alloc (Nat.le_refl _) _).alloc (by simp) _).alloc (by simp; omega) _).alloc (by simp; omega) _
  have b6 : RowKit.Below w.heap.size w w6 := (b4.trans (hb5.mono (by omega))).trans (hb6.mono (by omega))
  exact (b6.alloc (by omega) _).trans (hb7.mono (by simp; omega))

set_option maxRecDepth 100000 in
set_option maxHeartbeats 400000 in
theorem ofGrade_miss (F : Interp) (b n : Nat) (sl : Value) (sr : Bool) (gr : ByteArray) (D : DataW Unit) (w : World) (hF : F.answers w.tape) (hown : w.ownsMap Tryf.prog 9 decElem b n D) (hn : n ≤ 1048576) (hs : gr.size ≤ maxLen)
    (hhas : Maps.has D (keyl gr) = false) (hkeys : ∀ x ∈ strKeys D, x.length ≤ 1048576) :
    Calls Tryf.prog 10 #[.agg #[.map (some b), sl, .bool sr], .string gr] w (MissSaid w) := by
  have hnil := fun (w : World) (r : Option Nat) => run_eql_map_nil (P := Tryf.prog) w 28 9 35 r Tryf.underlying28
  have hsz := hown.size_le
  have HH := Hid.mk hhas
  have HK := Hid.mk hkeys
  clear hhas hkeys
  go_enter Tryf.func10, Tryf.ntmps10
  go_wp2_with (first
    | (at_lookup; refine wpList_lookup_own_ok _ rfl _ _ 28 rfl 9 35 law9 Tryf.underlying28 decElem (zero35 _) .nil [] decElem_zero b n D rfl ((hown.alloc _).alloc _) (.string gr) (keyl gr) rfl (keyOf_string_mk Tryf.underlying9 hs) ?_; intro v ps hv; rw [Maps.atKey_of_not_has HH.out] at hv; rw [decElem_nil hv, HH.out]; clear hv)
    | (go_at_call 21; refine (callsIn_wide.1 (Tryf.maps_Keys_21 _ _)).mono ?_; rintro e w' ⟨rfl, rfl⟩))
  refine (sorted_keys (w.heap.size + 1 + 1 + 1) b n D _ (by simp) (by exact ((hown.alloc _).alloc _).alloc _) (by unfold maxLen; omega) (by omega)).mono ?_
  rintro e w5 ⟨v, ss, rfl, hS, hrow, hb5⟩
  go_wp2_with fail
  refine (join_any _ _ v _ _ w5 hrow (by simp) (by simp; rw [hS.length_eq]; have := strKeys_len D; omega) (by decide) (by intro x hx; exact HK.out x (hS.mem_iff.1 (by simpa using hx)))).mono ?_
  rintro e w6 ⟨js, rfl, hb6⟩
  go_wp2_with fail
  have htape : w6.tape = w.tape := hb6.tape.trans hb5.tape
  have hs5 : w.heap.size + 1 + 1 + 1 + 1 ≤ w5.heap.size := by have := hb5.size; simpa using this
  have hs6 := hb6.size
  refine (errorf_two F w6.heap.size gr js _ (by show F.answers w6.tape; rw [htape]; exact hF) (by exact World.cell?_alloc_at _ _ _ 0 rfl) (by exact World.cell?_alloc_at _ _ _ 1 rfl)).mono ?_
  rintro e w7 ⟨rfl, hb7⟩
  obtain ⟨d0, d1, d2, hb⟩ := miss_end hb5 hb6 hb7
  clear hb5 hb6 hb7 hrow hS HK HH
  have f0 := d2 0
  have f1 := d2 1
  clear d2
  go_wp2
  refine bodyPost_ret (v := .tuple #[.agg #[.pointer none, .int .i32 0], .iface 78 (.pointer (some ⟨w6.heap.size + 1, 0, none⟩))]) (by simp [results, Tryf.results10, go_sem, d0, d1]) rfl ⟨_, rfl, ?_⟩
  exact (hb.setCell (by simp) _).setCell (by simp) _

end Go.Proofs.Qxb6604665aFmt
