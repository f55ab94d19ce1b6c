/-
  DERIVED. FnFormatQueueListsFirstOccurrencesInOrder: the row, and its tied card.
-/
import Derived.Test.Qxb6603154aDoorF
import Derived.Test.Qxb6603154aDoorTie
import Derived.Test.Qxb6603154aDoorCards
import Derived.ProofKit
import Derived.LaidMore
import Derived.OpenShut
import Derived.ChangeOld
import Derived.SevenTiedAt
namespace Go.Proofs.Qxb6603154aDoor
open Go.ChangeShapes Go.WideShapes Go.ChangeAt Go.RowKit
set_option linter.unusedVariables false

theorem own : ownKnob Tryd.prog.godebug = none := by kernel_rfl
theorem laidOut : laidOutB Tryd.prog = true := by kernel_rfl

/-- The listed variables. -/
abbrev laid3 : List (String × DataW Unit) := [("math/bits.deBruijn32tab", Rows.laid_math_bits_deBruijn32tab), ("math/bits.deBruijn64tab", Rows.laid_math_bits_deBruijn64tab), ("internal/strconv.uint64pow10", Rows.laid_internal_strconv_uint64pow10)]

/-- The door's own heap meets the condition. -/
theorem door_met (os : Os) (args : Array Value) : laidMetH Tryd.prog laid3 ((World.doorLaid Tryd.prog 400 os).forCall (fun _ _ => 0) ⟨#[], args, []⟩).memory :=
  laidMetH_of_parts3 (fuel := 8) (laidMet_of_run' 8 (by kernel_rfl) (by kernel_rfl)) (by kernel_rfl) (by kernel_rfl)

theorem tTab : (Tryd.prog.globals[0]?).map (·.type) = some 78 := by kernel_rfl
theorem uTab : Tryd.prog.underlying 78 = some (.array 20 25) := by kernel_rfl
/-- WHAT THE CONDITION GIVES THE WALK. -/
theorem tab_of {W : World} (h : laidMetH Tryd.prog laid3 W) : Tab W := by
  rw [MakeChecks.laidMetH_plain _ _ _ (by kernel_rfl)] at h
  obtain ⟨ps, ⟨g0, t0, cs0, f0, p0, q0, hg0, ht0, hv0, hd0, ⟨g1, t1, cs1, f1, p1, q1, hg1, ht1, hv1, hd1, ⟨g2, t2, cs2, f2, p2, q2, hg2, ht2, hv2, hd2, _, _⟩, _⟩, _⟩, _, _⟩ := h
  obtain rfl := Option.some.inj (gTab.symm.trans hg2)
  obtain rfl := Option.some.inj (tTab.symm.trans ht2)
  show World.var? Tryd.prog W "internal/strconv.uint64pow10" = _
  rw [hv2, ← Lib.cells_of_tab (zs := Lib.pow10Tab) uTab (by kernel_rfl) (by kernel_rfl) (by kernel_rfl) hd2]

/-- A slice of uint64s that came in, as the walk wants it. -/
theorem came_of {W : World} {a : Option Addr} {len cap : Nat} {zs : List Int} (h : (a = none ∧ len = 0 ∧ cap = 0) ∨ ∃ x, a = some x ∧ len ≤ cap ∧ cap ≤ maxLen ∧ zs.length = cap ∧ (∀ i, i < zs.length → W.cell? (x.add i) = some (.int .u64 (zs.getD i 0))) ∧ ∀ n ∈ zs, (Lit.int .u64 n).wf = true) :
    Came W a len cap (fun i => (zs.getD i 0).toNat) := by
  rcases h with ⟨rfl, rfl, rfl⟩ | ⟨x, rfl, h1, h2, h3, h4, h5⟩
  · exact ⟨.inl (by omega), fun _ => ⟨rfl, rfl⟩, Nat.le_refl _, by unfold maxLen; omega, fun i hi => absurd hi (Nat.not_lt_zero _)⟩
  · have hlim : ∀ i, i < len → 0 ≤ zs.getD i 0 ∧ zs.getD i 0 < 18446744073709551616 := fun i hi => by
      have hi' : i < zs.length := by omega
      have hm : zs.getD i 0 ∈ zs := by
        rw [List.getD_eq_getElem?_getD, List.getElem?_eq_getElem hi', Option.getD_some]
        exact List.getElem_mem _
      have := h5 _ hm
      generalize zs.getD i 0 = y at this ⊢
      simp [Lit.wf, IntKind.min, IntKind.max, IntKind.signed, IntKind.bits] at this
      omega
    refine ⟨?_, fun h => (by cases h), h1, h2, fun i hi => by have := hlim i hi; show (zs.getD i 0).toNat < _; omega⟩
    rcases Nat.eq_zero_or_pos len with h0 | hpos
    · exact .inl (by omega)
    · obtain ⟨b, off, spot⟩ := x
      have hc0 := h4 0 (by omega)
      have hspot : spot = none := by simpa [Addr.add] using World.cell?_spot hc0
      subst hspot
      refine .inr ⟨b, off, rfl, ?_, fun i hi => ?_⟩
      · by_cases hb : b < W.heap.size
        · exact hb
        · exfalso
          have h0 : Addr.add ⟨b, off, none⟩ 0 = ⟨b, off, none⟩ := rfl
          rw [h0, World.cell?, Array.getElem?_eq_none (by simpa using hb)] at hc0
          cases hc0
      · have hl := hlim i hi
        show W.cell? _ = some (.int .u64 (((zs.getD i 0).toNat : Nat) : Int))
        rw [Int.toNat_of_nonneg hl.1, ← h4 i (by omega), Addr.add_lit]

set_option maxRecDepth 100000 in
theorem lifted6 (os : Os) (started : os.Started) (H : Type) (enc : TypeId × Value → H) :
    ReturnsInHanded {} Tryd.checked os 6 .any (fun w args => (Rows.fnFormatQueueListsFirstOccurrencesInOrderSpec.pre enc Tryd.prog Tryd.f6 [] false w args ∧ laidMetH Tryd.prog laid3 w) ∧ sizedMet enc Tryd.prog Tryd.f6 (OpenSpec.ofChange Rows.fnFormatQueueListsFirstOccurrencesInOrderSpec) false w args)
      (Rows.fnFormatQueueListsFirstOccurrencesInOrderSpec.post enc Tryd.prog Tryd.f6 false true false false) := by
  refine returnsInHanded_of_change_and (C := Tryd.checked) (X := fun w _ => laidMetH Tryd.prog laid3 w) (fun _ _ _ hh h => h.of_heap hh) own started (by kernel_rfl) Tryd.func6
    (ChangeSpec.witness_shaped (enc := enc) (C := Tryd.checked) (os := os) (X := fun w _ => laidMetH Tryd.prog laid3 w) false (World.doorLaid Tryd.prog 400 os) #[.slice none 0 0] 8 rfl (World.shaped_of_RefB (by kernel_rfl) (by kernel_rfl)) (by kernel_rfl) (by kernel_rfl) (by kernel_rfl) (door_met os _)) ?_
  intro W base args ds gs before hval0 hW _ _ hL _
  have hval : ∀ (j : Nat) t v, Tryd.f6.params[j]? = some t → args[j]? = some v → Value.okWide Tryd.prog W .any base t v := hval0
  have hW' := hW
  obtain ⟨p, q, hA0, hV, rfl, hfz, hnd⟩ := hW
  have hA : DataW.TrodAll enc Tryd.prog W 0 (fun _ => true) true Tryd.f6.params.toList args.toList ds p := hA0
  rw [Tryd.params6] at hA hval
  obtain ⟨v0, vs0, d0, ds0, p0, q0, hargs, rfl, rfl, h0, r0⟩ := trodAll_cons hA
  obtain ⟨rfl, rfl, rfl⟩ := trodAll_nil r0
  obtain rfl : args = #[v0] := by cases args; simp_all
  obtain ⟨rfl, rfl⟩ := trodVars_none hV
  obtain ⟨a0, len0, cap0, rfl⟩ := okWide_slice Tryd.underlying32 (hval 0 32 v0 rfl rfl)
  have k0 := h0
  have lt0 : ∀ x ∈ p0, x.block < W.heap.size := by obtain ⟨m, hm⟩ := k0; exact DataW.trod_lt m _ _ _ hm
  obtain ⟨zs, hcame⟩ : ∃ zs : List Int, Came W a0 len0 cap0 (fun i => (zs.getD i 0).toNat) := by
    obtain ⟨fuel, hf⟩ := h0
    rcases open_ints Tryd.underlying32 Tryd.underlying25 (by kernel_rfl) hf with ⟨hcs, _⟩ | ⟨x, l, c, zs, hcs, _, hl, hm, hz, _, hcell, hwz⟩
    · simp [Value.cells] at hcs
      obtain ⟨rfl, rfl, rfl⟩ := hcs
      exact ⟨[], came_of (.inl ⟨rfl, rfl, rfl⟩)⟩
    · simp [Value.cells] at hcs
      obtain ⟨rfl, rfl, rfl⟩ := hcs
      exact ⟨zs, came_of (.inr ⟨_, rfl, hl, hm, by simpa using hz, hcell, hwz⟩)⟩
  clear hA0 hval0
  refine (law6 a0 len0 cap0 _ W hcame (tab_of hL)).mono fun e W' ⟨he, bel⟩ => ?_
  subst he
  exact ⟨_, rfl, _, _, _, [], _, [], hW', trodAll_mk1 (shut_bool Tryd.underlying4 _), (trodAll_cons_mk (Below.trod laidOut (by kernel_rfl) (of_decide_eq_true (by kernel_rfl)) k0 bel lt0) trodAll_mk0), rfl, bel.frame _, fun h => by cases h⟩

theorem over6 : Rows.FnFormatQueueListsFirstOccurrencesInOrderSaid :=
  OpenClaim.holds_of_wide 6 Tryd.f6 rfl rfl rfl rfl rfl rfl rfl ⟨rfl, rfl, rfl, rfl, rfl⟩ rfl rfl rfl rfl rfl (by kernel_rfl) Tryd.func6 (by kernel_rfl)
    (of_decide_eq_true (by kernel_rfl)) (by unfold Func.isWrapper; first | (rw [if_pos (by decide +kernel)]; kernel_rfl) | (rw [if_neg (by decide +kernel)]; exact ⟨rfl, rfl⟩))
    (fun os started H enc _ => lifted6 os started H enc)

/-- THE CARD. -/
theorem formatQueueListsFirstOccurrencesInOrder : Rows.FnFormatQueueListsFirstOccurrencesInOrderCardSaid :=
  Claim7.holds_tied_plain_at .later [] [.data, .data, .data] true (true, "85f66edcd892fa1d3367b89f974b916748e4f0129e7caf3f724ca9e5ccf48078") false
    over6 (fun _ h => by cases h) (by kernel_rfl) (fun _ h => by cases h) fnFormatQueueListsFirstOccurrencesInOrder_row_tie rfl ⟨rfl, rfl⟩ (by kernel_rfl) rfl
    (fun f fn hf hfn => by
      obtain rfl : f = 6 := Option.some.inj ((show Tryd.prog.funcNamed "example.com/latchwork/latchwork/zzlaws_root_b1.FnFormatQueueListsFirstOccurrencesInOrder" = some 6 by kernel_rfl).symm.trans hf) |>.symm
      obtain rfl : fn = Tryd.f6 := (Option.some.inj (Tryd.func6.symm.trans hfn)).symm
      exact ⟨by kernel_rfl, fun j t ht => by
        rw [Tryd.params6] at ht
        have hm : t ∈ [32] := by simpa using Array.mem_of_getElem? ht
        have hall : ([32].all fun u => !Tryd.prog.wantsStandIn u) = true := by kernel_rfl
        exact (show Tryd.prog.wantsStandIn t = false by simpa using List.all_eq_true.1 hall t hm)⟩)
    (by kernel_rfl)

end Go.Proofs.Qxb6603154aDoor
