/-
  DERIVED. THE MAP OF GRADES: what it holds after k entries have been written.
-/
import Derived.Test.Qxb6604665aFmtC
import Derived.Maps.OwnSet
import Derived.Sort.KeysCollected
namespace Go.Proofs.Qxb6604665aFmt
open Go.RowKit Go.Maps
set_option linter.unusedVariables false

/-- What a Decimal in the map reads as: where its big.Int lies, and its exponent. A ghost of the proof. -/
def dd (pb : Nat) (ex : Int) : DataW Unit := .agg [.lit (.int .u64 pb), .lit (.int .i32 ex)]

/-- How an element of the map reads: through no place. -/
def decElem (v : Value) : Option (DataW Unit × List MemPlace) :=
  match v with
  | .agg cs => match cs.toList with
    | [.pointer (some a), .int .i32 e] => if a.off = 0 ∧ a.spot = none then some (dd a.block e, []) else none
    | [.pointer none, .int .i32 e] => if e = 0 then some (.nil, []) else none
    | _ => none
  | _ => none

theorem decElem_mk (pb : Nat) (ex : Int) : decElem (.agg #[.pointer (some ⟨pb, 0, none⟩), .int .i32 ex]) = some (dd pb ex, []) := by simp [decElem]
theorem decElem_zero : decElem (.agg #[.pointer none, .int .i32 0]) = some (.nil, []) := by simp [decElem]

theorem decElem_dd {v : Value} {pb : Nat} {ex : Int} {ps : List MemPlace} (h : decElem v = some (dd pb ex, ps)) : v = .agg #[.pointer (some ⟨pb, 0, none⟩), .int .i32 ex] := by
  unfold decElem at h
  split at h
  · rename_i cs
    split at h
    · rename_i a e hcs
      split at h
      · rename_i ha
        simp [dd] at h
        obtain ⟨⟨h1, h2⟩, _⟩ := h
        obtain ⟨b, o, s⟩ := a
        obtain ⟨l⟩ := cs
        simp at ha hcs h1
        obtain ⟨rfl, rfl⟩ := ha
        subst hcs
        subst h2
        obtain rfl : b = pb := by omega
        rfl
      · cases h
    · split at h
      · simp [dd] at h
      · cases h
    · cases h
  · cases h

theorem decElem_nil {v : Value} {ps : List MemPlace} (h : decElem v = some (.nil, ps)) : v = .agg #[.pointer none, .int .i32 0] := by
  unfold decElem at h
  split at h
  · rename_i cs
    split at h
    · split at h
      · simp [dd] at h
      · cases h
    · rename_i e hcs
      split at h
      · rename_i he
        subst he
        obtain ⟨l⟩ := cs
        simp at hcs
        subst hcs
        rfl
      · cases h
    · cases h
  · cases h

/-- A grade's name as a key. -/
def keyl (s : ByteArray) : Lit := .string s.data.toList
theorem keyl_inj {s t : ByteArray} (h : keyl s = keyl t) : s = t := by
  obtain ⟨⟨a⟩⟩ := s
  obtain ⟨⟨b⟩⟩ := t
  simp [keyl] at h
  subst h
  rfl
theorem keyl_ne {s t : ByteArray} (h : s ≠ t) : keyl s ≠ keyl t := fun e => h (keyl_inj e)

theorem keyl_key (s : ByteArray) : WideAt.IsKeyLit (keyl s) := trivial

/-- WHAT THE MAP ANSWERS AFTER k ENTRIES: at a name that none of them has: nothing; at the last entry of a name: that entry. -/
def Look (N : Nat → ByteArray) (X : Nat → Int) (PB : Nat → Nat) (k : Nat) (D : DataW Unit) : Prop :=
  (∀ kl, (∀ i, i < k → keyl (N i) ≠ kl) → Maps.has D kl = false) ∧
  ∀ i, i < k → (∀ j, i < j → j < k → N j ≠ N i) → Maps.has D (keyl (N i)) = true ∧ D.atKey (keyl (N i)) .nil = dd (PB i) (X i)

theorem look_start (N : Nat → ByteArray) (X : Nat → Int) (PB : Nat → Nat) : Look N X PB 0 (.map []) :=
  ⟨fun kl _ => by simp [Maps.has], fun i hi => absurd hi (Nat.not_lt_zero _)⟩

theorem look_step {N : Nat → ByteArray} {X : Nat → Int} {PB : Nat → Nat} {k : Nat} {D : DataW Unit} (h : Look N X PB k D) (hD : IsMap D) (pb : Nat) :
    Look N X (fun i => if i = k then pb else PB i) (k + 1) (D.put (keyl (N k)) (dd pb (X k))) := by
  obtain ⟨h1, h2⟩ := h
  refine ⟨fun kl hkl => ?_, fun i hi hlast => ?_⟩
  · rw [has_put_other (hkl k (by omega)).symm]
    exact h1 kl fun i hi => hkl i (by omega)
  · by_cases e : i = k
    · subst e
      exact ⟨has_put_same hD (keyl_key _) _, by rw [atKey_put_same hD (keyl_key _)]; simp⟩
    · have hne := keyl_ne (hlast k (by omega) (by omega))
      obtain ⟨g1, g2⟩ := h2 i (by omega) fun j hj hj' => hlast j hj (by omega)
      refine ⟨by rw [has_put_other (Ne.symm hne)]; exact g1, by rw [atKey_put_other (Ne.symm hne), g2]; simp [e]⟩

theorem has_of_strKeys {D : DataW Unit} {s : List UInt8} (hD : ∀ es, D = .map es → ∀ p ∈ es, ∃ x, p.1 = .string x) (h : s ∈ strKeys D) : Maps.has D (.string s) = true := by
  cases D with
  | map es =>
    simp only [strKeys, List.mem_map] at h
    obtain ⟨p, hp, hs⟩ := h
    obtain ⟨x, hx⟩ := hD es rfl p hp
    rw [hx] at hs
    simp [strOf] at hs
    subst hs
    simp only [Maps.has, List.any_eq_true]
    exact ⟨p, hp, by rw [hx]; simp [Lit.sameKey]⟩
  | _ => simp [strKeys] at h

/-- Every key of the map is some entry's name. -/
theorem look_keys {N : Nat → ByteArray} {X : Nat → Int} {PB : Nat → Nat} {k : Nat} {D : DataW Unit} (h : Look N X PB k D) (hD : ∀ es, D = .map es → ∀ p ∈ es, ∃ x, p.1 = .string x) {s : List UInt8} (hs : s ∈ strKeys D) : ∃ i, i < k ∧ s = (N i).data.toList := by
  have hh := has_of_strKeys hD hs
  by_cases e : ∃ i, i < k ∧ s = (N i).data.toList
  · exact e
  · rw [h.1 (.string s) (fun i hi he => e ⟨i, hi, by simp [keyl] at he; exact he.symm⟩)] at hh
    cases hh

end Go.Proofs.Qxb6604665aFmt
