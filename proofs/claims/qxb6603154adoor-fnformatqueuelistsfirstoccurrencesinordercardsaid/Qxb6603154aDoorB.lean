/-
  DERIVED. THE TWO MAPS BEHIND PLAIN WORDS: 'seen' (a set of numbers), 'pos' (a number's place in a list).
-/
import Derived.Test.Qxb6603154aDoorA
import Derived.Maps.OwnSet
import Derived.Deep.DeepCutAuto
namespace Go.Proofs.Qxb6603154aDoor
open Go.RowKit Go.Maps
set_option linter.unusedVariables false

theorem keyed : Keyed Tryd.prog 25 := int_keyed Tryd.underlying25
theorem wf64 {x : Nat} (h : x < 18446744073709551616) : (Lit.int .u64 (x : Int)).wf = true := by
  simp [Lit.wf, IntKind.min, IntKind.max, IntKind.signed, IntKind.bits]
  omega
theorem wfI {x : Nat} (h : x < 9223372036854775808) : (Lit.int .i64 (x : Int)).wf = true := by
  simp [Lit.wf, IntKind.min, IntKind.max, IntKind.signed, IntKind.bits]
  omega
/-- A number as a key. -/
def keyl (x : Nat) : Lit := .int .u64 (x : Int)
theorem keyl_ne {x y : Nat} (h : x ≠ y) : keyl x ≠ keyl y := fun e => h (by simp [keyl] at e; omega)
theorem keyl_key (x : Nat) : WideAt.IsKeyLit (keyl x) := trivial
theorem key_of {x : Nat} (h : x < 18446744073709551616) : keyOf Tryd.prog 25 (.int .u64 (x : Int)) = some (keyl x) := keyOf_int_mk Tryd.underlying25 (wf64 h)

theorem zero4 (w : World) : (zeroValue 4).run Tryd.prog w = .ok (.bool false) w := by kernel_rfl
theorem zero3 (w : World) : (zeroValue 3).run Tryd.prog w = .ok (.int .i64 0) w := by kernel_rfl
theorem plainElem_bool_inv {P : Program} {e : TypeId} (he : P.underlying e = some .bool) {v : Value} {x : Bool} {ps : List MemPlace} (h : plainElem (H := Unit) P e v = some (.lit (.bool x), ps)) : v = .bool x := by
  unfold plainElem at h
  rw [he] at h
  cases v <;> simp at h
  exact congrArg Value.bool h.1

theorem make46 (n : Nat) (w : World) : (Instr.makeMap 46 (some (.int .i64 (n : Int)))).run Tryd.prog w = .ok (.map (some w.heap.size)) (w.alloc (.map #[] 0)) := by
  simp [Instr.makeMap, run_underlying Tryd.underlying46, asInt, newObj, go_sem]
  rfl
theorem make38 (n : Nat) (w : World) : (Instr.makeMap 38 (some (.int .i64 (n : Int)))).run Tryd.prog w = .ok (.map (some w.heap.size)) (w.alloc (.map #[] 0)) := by
  simp [Instr.makeMap, run_underlying Tryd.underlying38, asInt, newObj, go_sem]
  rfl

/-- 'seen' IN BLOCK b HOLDS JUST THE NUMBERS OF S. -/
def SeenM (w : World) (b n : Nat) (S : List Nat) : Prop :=
  ∃ D : DataW Unit, w.ownsMap Tryd.prog 25 (plainElem Tryd.prog 4) b n D ∧ (∀ x, Maps.has D (keyl x) = decide (x ∈ S)) ∧ ∀ x, D.atKey (keyl x) (.lit (.bool false)) = .lit (.bool (decide (x ∈ S)))
theorem SeenM.made (w : World) : SeenM (w.alloc (.map #[] 0)) w.heap.size 0 [] :=
  ⟨.map [], World.ownsMap_made _ _ _ _, fun x => by simp [Maps.has], fun x => by rw [atKey_of_not_has (by simp [Maps.has])]; simp⟩
theorem SeenM.look {w : World} {b n : Nat} {S : List Nat} (h : SeenM w b n S) {x : Nat} (hx : x < 18446744073709551616) :
    (Instr.lookup 46 (.map (some b)) (.int .u64 (x : Int)) false).run Tryd.prog w = .ok (.bool (decide (x ∈ S))) w := by
  obtain ⟨D, hown, h1, h2⟩ := h
  obtain ⟨v, ps, hrun, hv⟩ := hown.lookup keyed Tryd.underlying46 (zero4 w) (plainElem_bool Tryd.underlying4 false) (key_of hx)
  rw [h2 x] at hv
  rw [plainElem_bool_inv Tryd.underlying4 hv] at hrun
  exact hrun
theorem SeenM.put {w : World} {b n : Nat} {S : List Nat} (h : SeenM w b n S) {x : Nat} (hx : x < 18446744073709551616) (hn : n < maxLen) :
    ∃ w', (Instr.mapUpdate 46 (.map (some b)) (.int .u64 (x : Int)) (.bool true)).run Tryd.prog w = .ok () w' ∧ SeenM w' b (n + 1) (S ++ [x]) ∧ w.grownBy w' (some b) := by
  obtain ⟨D, hown, h1, h2⟩ := h
  obtain ⟨w', hrun, hown', hg⟩ := hown.update keyed Tryd.underlying46 hn (key_of hx) (plainElem_bool Tryd.underlying4 true)
  refine ⟨w', hrun, ⟨_, hown', fun y => ?_, fun y => ?_⟩, hg⟩
  · by_cases e : y = x
    · subst e; rw [has_put_same hown.isMap (keyl_key _)]; simp
    · rw [has_put_other (keyl_ne e), h1 y]; simp [e]
  · by_cases e : y = x
    · subst e; rw [atKey_put_same hown.isMap (keyl_key _)]; simp
    · rw [atKey_put_other (keyl_ne e), h2 y]; simp [e]
theorem SeenM.same {w w' : World} {b n : Nat} {S : List Nat} (h : SeenM w b n S) (hb : w'.heap[b]? = w.heap[b]?) : SeenM w' b n S := by
  obtain ⟨D, ⟨es, clock, hb', r⟩, h⟩ := h
  exact ⟨D, ⟨es, clock, hb.trans hb', r⟩, h⟩
theorem SeenM.obj {w : World} {b n : Nat} {S : List Nat} (h : SeenM w b n S) : ∃ es clock, w.heap[b]? = some (.map es clock) := by
  obtain ⟨D, ⟨es, clock, hb', r⟩, h⟩ := h
  exact ⟨es, clock, hb'⟩

/-- 'pos' IN BLOCK b SENDS THE NUMBERS OF L TO THEIR PLACES. -/
def PosM (w : World) (b n : Nat) (L : List Nat) : Prop :=
  ∃ D : DataW Unit, w.ownsMap Tryd.prog 25 (plainElem Tryd.prog 3) b n D ∧ (∀ x, Maps.has D (keyl x) = decide (x ∈ L)) ∧ ∀ x, D.atKey (keyl x) (.lit (.int .i64 0)) = .lit (.int .i64 (if x ∈ L then (L.idxOf x : Int) else 0))
theorem PosM.made (w : World) : PosM (w.alloc (.map #[] 0)) w.heap.size 0 [] :=
  ⟨.map [], World.ownsMap_made _ _ _ _, fun x => by simp [Maps.has], fun x => by rw [atKey_of_not_has (by simp [Maps.has])]; simp⟩
theorem PosM.look {w : World} {b n : Nat} {L : List Nat} (h : PosM w b n L) {x : Nat} (hx : x < 18446744073709551616) :
    (Instr.lookup 38 (.map (some b)) (.int .u64 (x : Int)) true).run Tryd.prog w = .ok (.tuple #[.int .i64 (if x ∈ L then (L.idxOf x : Int) else 0), .bool (decide (x ∈ L))]) w := by
  obtain ⟨D, hown, h1, h2⟩ := h
  obtain ⟨v, ps, hrun, hv⟩ := hown.look_ok keyed Tryd.underlying38 (zero3 w) (plainElem_int Tryd.underlying3 (by decide)) (key_of hx)
  rw [h2 x] at hv
  obtain ⟨a, rfl, ha, _⟩ := plainElem_int_inv Tryd.underlying3 hv
  simp only [Prod.mk.injEq, DataW.lit.injEq, Lit.int.injEq, true_and] at ha
  rw [hrun, h1 x, ha.1]
theorem PosM.put {w : World} {b n : Nat} {L : List Nat} (h : PosM w b n L) {x : Nat} (hx : x < 18446744073709551616) (hn : n < maxLen) (hnew : x ∉ L) (hL : L.length < 9223372036854775808) :
    ∃ w', (Instr.mapUpdate 38 (.map (some b)) (.int .u64 (x : Int)) (.int .i64 (L.length : Int))).run Tryd.prog w = .ok () w' ∧ PosM w' b (n + 1) (L ++ [x]) ∧ w.grownBy w' (some b) := by
  obtain ⟨D, hown, h1, h2⟩ := h
  obtain ⟨w', hrun, hown', hg⟩ := hown.update keyed Tryd.underlying38 hn (key_of hx) (plainElem_int Tryd.underlying3 (wfI hL))
  refine ⟨w', hrun, ⟨_, hown', fun y => ?_, fun y => ?_⟩, hg⟩
  · by_cases e : y = x
    · subst e; rw [has_put_same hown.isMap (keyl_key _)]; simp
    · rw [has_put_other (keyl_ne e), h1 y]; simp [e]
  · by_cases e : y = x
    · subst e
      rw [atKey_put_same hown.isMap (keyl_key _)]
      rw [if_pos (by simp), List.idxOf_append, if_neg hnew]
      simp
    · rw [atKey_put_other (keyl_ne e), h2 y]
      by_cases hy : y ∈ L
      · rw [if_pos hy, if_pos (by simp [hy]), List.idxOf_append, if_pos hy]
      · rw [if_neg hy, if_neg (by simp [hy, e])]
theorem PosM.same {w w' : World} {b n : Nat} {S : List Nat} (h : PosM w b n S) (hb : w'.heap[b]? = w.heap[b]?) : PosM w' b n S := by
  obtain ⟨D, ⟨es, clock, hb', r⟩, h⟩ := h
  exact ⟨D, ⟨es, clock, hb.trans hb', r⟩, h⟩

end Go.Proofs.Qxb6603154aDoor
