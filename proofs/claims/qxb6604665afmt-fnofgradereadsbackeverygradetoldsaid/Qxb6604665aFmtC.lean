/-
  DERIVED. THE DECIMALS: math/big.NewInt, decimal.New, ZZdec; (*Int).Int64, CoefficientInt64, Exponent, ZZdecCoef, ZZdecExp, ZZdecIsZeroValue.
-/
import Derived.Test.Qxb6604665aFmtB
namespace Go.Proofs.Qxb6604665aFmt
open Go.RowKit
set_option linter.unusedVariables false

/-- BLOCK pb IS A big.Int OF THE VALUE x; it and what it leads to lie in blocks from 'base' on. -/
def IsBig (base : Nat) (w : World) (pb : Nat) (x : Int) : Prop :=
  base ≤ pb ∧ ((x = 0 ∧ w.cell? ⟨pb, 0, none⟩ = some (.bool false) ∧ w.cell? ⟨pb, 1, none⟩ = some (.slice none 0 0)) ∨
   (∃ sb, base ≤ sb ∧ x < 0 ∧ w.cell? ⟨pb, 0, none⟩ = some (.bool true) ∧ w.cell? ⟨pb, 1, none⟩ = some (.slice (some ⟨sb, 0, none⟩) 1 1) ∧ w.cell? ⟨sb, 0, none⟩ = some (.int .u64 (-x))) ∨
   (∃ sb, base ≤ sb ∧ 0 < x ∧ w.cell? ⟨pb, 0, none⟩ = some (.bool false) ∧ w.cell? ⟨pb, 1, none⟩ = some (.slice (some ⟨sb, 0, none⟩) 1 1) ∧ w.cell? ⟨sb, 0, none⟩ = some (.int .u64 x)))

/-- From block lo up to w's own size w' is as w was. -/
def SameFrom (lo : Nat) (w w' : World) : Prop := ∀ k, lo ≤ k → k < w.heap.size → w'.heap[k]? = w.heap[k]?

theorem SameFrom.cell {lo : Nat} {w w' : World} (h : SameFrom lo w w') {p : Addr} {v : Value} (hp : lo ≤ p.block) (hc : w.cell? p = some v) : w'.cell? p = some v :=
  (World.cell?_of_block (h p.block hp (World.block_lt_of_cell? w p hc))).trans hc

theorem IsBig.same {base : Nat} {w w' : World} {pb : Nat} {x : Int} (h : IsBig base w pb x) (hs : SameFrom base w w') : IsBig base w' pb x := by
  obtain ⟨hb, h⟩ := h
  refine ⟨hb, ?_⟩
  rcases h with ⟨h1, h2, h3⟩ | ⟨sb, h1, h2, h3, h4, h5⟩ | ⟨sb, h1, h2, h3, h4, h5⟩
  · exact .inl ⟨h1, hs.cell (p := ⟨pb, 0, none⟩) hb h2, hs.cell (p := ⟨pb, 1, none⟩) hb h3⟩
  · exact .inr (.inl ⟨sb, h1, h2, hs.cell (p := ⟨pb, 0, none⟩) hb h3, hs.cell (p := ⟨pb, 1, none⟩) hb h4, hs.cell (p := ⟨sb, 0, none⟩) h1 h5⟩)
  · exact .inr (.inr ⟨sb, h1, h2, hs.cell (p := ⟨pb, 0, none⟩) hb h3, hs.cell (p := ⟨pb, 1, none⟩) hb h4, hs.cell (p := ⟨sb, 0, none⟩) h1 h5⟩)

theorem SameFrom.of_below {lo B : Nat} {w w' : World} (h : Below B w w') (hB : w.heap.size ≤ B) : SameFrom lo w w' := fun k _ hk => h.block k (by omega)
theorem IsBig.below {base : Nat} {w w' : World} {pb : Nat} {x : Int} (h : IsBig base w pb x) (hb : Below w.heap.size w w') : IsBig base w' pb x := h.same (.of_below hb (Nat.le_refl _))
theorem IsBig.mono {base base' : Nat} {w : World} {pb : Nat} {x : Int} (h : IsBig base w pb x) (hb : base' ≤ base) : IsBig base' w pb x := by
  obtain ⟨h0, h⟩ := h
  refine ⟨by omega, ?_⟩
  rcases h with h | ⟨sb, h1, h2⟩ | ⟨sb, h1, h2⟩
  · exact .inl h
  · exact .inr (.inl ⟨sb, by omega, h2⟩)
  · exact .inr (.inr ⟨sb, by omega, h2⟩)
theorem IsBig.lt {base : Nat} {w : World} {pb : Nat} {x : Int} (h : IsBig base w pb x) : pb < w.heap.size := by
  obtain ⟨hb, ⟨h1, h2, h3⟩ | ⟨sb, h1, h2, h3, h4, h5⟩ | ⟨sb, h1, h2, h3, h4, h5⟩⟩ := h
  · exact World.block_lt_of_cell? w _ h2
  · exact World.block_lt_of_cell? w _ h3
  · exact World.block_lt_of_cell? w _ h3

theorem SameFrom.refl (lo : Nat) (w : World) : SameFrom lo w w := fun _ _ _ => rfl
theorem SameFrom.setCell {lo : Nat} {w w' : World} (h : SameFrom lo w w') {a : Addr} (ha : a.block < lo) (v : Value) : SameFrom lo w (w'.setCell a v) := fun k h1 h2 =>
  (Below.heap_setCell _ _ _ _ (by omega)).trans (h k h1 h2)

theorem u64_neg (x : Int) (hx : x < 0) (h1 : -9223372036854775808 ≤ x) : IntKind.u64.wrap (-IntKind.u64.wrap x) = -x := by
  simp only [IntKind.wrap_u64]; omega

/-- What NewInt is good for. -/
def NewIntSaid (x : Int) (w : World) (e : Ending) (w' : World) : Prop := ∃ pb, e = .returned (.pointer (some ⟨pb, 0, none⟩)) ∧ IsBig w.heap.size w' pb x ∧ Below w.heap.size w w'

set_option maxHeartbeats 400000 in
theorem newint_any (x : Int) (h1 : -9223372036854775808 ≤ x) (h2 : x ≤ 9223372036854775807) (w : World) : Calls Tryf.prog 35 #[.int .i64 x] w (NewIntSaid x w) := by
  rcases Int.lt_trichotomy x 0 with hx | rfl | hx
  · have hw := u64_neg x hx h1
    go_enter Tryf.func35, Tryf.ntmps35
    go_wp2
    go_ret
    refine ⟨w.heap.size + 1, rfl, ⟨by omega, .inr (.inl ⟨w.heap.size, Nat.le_refl _, hx, ?_, ?_, ?_⟩)⟩, ((Below.refl _ _).alloc (Nat.le_refl _) _).alloc (by simp) _⟩
    · simp
    · simp
    · simp
  · go_enter Tryf.func35, Tryf.ntmps35
    go_wp2
    go_ret
    refine ⟨w.heap.size, rfl, ⟨by omega, .inl ⟨rfl, ?_, ?_⟩⟩, (Below.refl _ _).alloc (Nat.le_refl _) _⟩
    · simp
    · simp
  · have hd : decide (x < 0) = false := by simp; omega
    go_enter Tryf.func35, Tryf.ntmps35
    go_wp2
    go_ret
    refine ⟨w.heap.size + 1, rfl, ⟨by omega, .inr (.inr ⟨w.heap.size, Nat.le_refl _, hx, ?_, ?_, ?_⟩)⟩, ((Below.refl _ _).alloc (Nat.le_refl _) _).alloc (by simp) _⟩
    · simp
    · simp
    · simp

/-- What decimal.New and ZZdec are good for: a Decimal of the value x and the exponent ex. -/
def DecSaid (x ex : Int) (w : World) (e : Ending) (w' : World) : Prop := ∃ pb, e = .returned (.agg #[.pointer (some ⟨pb, 0, none⟩), .int .i32 ex]) ∧ IsBig w.heap.size w' pb x ∧ Below w.heap.size w w'

theorem bcell {W w1 : World} (hb : Below W.heap.size W w1) : (∀ b o, b < W.heap.size → w1.cell? ⟨b, o, none⟩ = W.cell? ⟨b, o, none⟩) ∧ (∀ b o, b < W.heap.size → w1.frozen? ⟨b, o, none⟩ = W.frozen? ⟨b, o, none⟩) :=
  ⟨fun b o h => hb.cell (p := ⟨b, o, none⟩) h, fun b o h => hb.frozen (p := ⟨b, o, none⟩) h⟩

set_option maxHeartbeats 400000 in
theorem new_any (x ex : Int) (h1 : -9223372036854775808 ≤ x) (h2 : x ≤ 9223372036854775807) (w : World) : Calls Tryf.prog 24 #[.int .i64 x, .int .i32 ex] w (DecSaid x ex w) := by
  go_enter Tryf.func24, Tryf.ntmps24
  go_wp2_with (go_at_call 35; refine (newint_any x h1 h2 _).mono ?_; rintro e w1 ⟨pb, rfl, hbig, hbel⟩; obtain ⟨hc, hf⟩ := bcell hbel)
  refine bodyPost_ret (v := .agg #[.pointer (some ⟨pb, 0, none⟩), .int .i32 ex]) (by simp [results, Tryf.results24, go_sem, hc]) rfl ⟨pb, rfl, ?_, ?_⟩
  · simp only [World.size_alloc] at hbig
    exact (hbig.same (((SameFrom.refl _ _).setCell (by simp) _).setCell (by simp) _)).mono (by omega)
  · exact ((((Below.refl _ _).alloc (Nat.le_refl _) _).trans (hbel.mono (by simp))).setCell (Nat.le_refl _) _).setCell (Nat.le_refl _) _

set_option maxHeartbeats 400000 in
theorem dec_any (x ex : Int) (h1 : -9223372036854775808 ≤ x) (h2 : x ≤ 9223372036854775807) (w : World) : Calls Tryf.prog 17 #[.int .i64 x, .int .i32 ex] w (DecSaid x ex w) := by
  go_enter Tryf.func17, Tryf.ntmps17
  go_wp2_with (go_at_call 24; refine (new_any x ex h1 h2 _).mono ?_; rintro e w1 ⟨pb, rfl, hbig, hbel⟩; obtain ⟨hc, hf⟩ := bcell hbel)
  refine bodyPost_ret (v := .agg #[.pointer (some ⟨pb, 0, none⟩), .int .i32 ex]) (by simp [results, Tryf.results17, go_sem, hc]) rfl ⟨pb, rfl, ?_, ?_⟩
  · simp only [World.size_alloc] at hbig
    exact (hbig.same (((SameFrom.refl _ _).setCell (by simp) _).setCell (by simp) _)).mono (by omega)
  · exact ((((Below.refl _ _).alloc (Nat.le_refl _) _).trans (hbel.mono (by simp))).setCell (Nat.le_refl _) _).setCell (Nat.le_refl _) _

/-- The world behind ZZdecCoef, ZZdecExp: two copies of the Decimal have been laid. -/
abbrev twoBoxes (w : World) (d : Array Value) : World := (w.alloc (.cells d 35)).alloc (.cells d 35)

theorem ret_int {k : IntKind} {a b : Int} (h : a = b) : Ending.returned (.int k a) = .returned (.int k b) := by rw [h]
theorem neg_neg64 (x : Int) (h1 : -9223372036854775808 ≤ x) (hx : x < 0) : wrap64 (-wrap64 (-x)) = x := by unfold wrap64; omega

set_option maxHeartbeats 400000 in
theorem coef_any (base pb : Nat) (x ex : Int) (h1 : -9223372036854775808 ≤ x) (h2 : x ≤ 9223372036854775807) (w : World) (hbig : IsBig base w pb x) :
    Calls Tryf.prog 12 #[.agg #[.pointer (some ⟨pb, 0, none⟩), .int .i32 ex]] w (fun e w' => e = .returned (.int .i64 x) ∧ w' = twoBoxes w #[.pointer (some ⟨pb, 0, none⟩), .int .i32 ex]) := by
  have hlt := hbig.lt
  obtain ⟨hb, ⟨h0, c0, c1⟩ | ⟨sb, hsb, hx, c0, c1, c2⟩ | ⟨sb, hsb, hx, c0, c1, c2⟩⟩ := hbig
  · subst h0
    have hlt1 : pb < w.heap.size + 1 := by omega
    go_enter Tryf.func12, Tryf.ntmps12
    go_wp2
    go_end0
    go_wp2
    go_ret
    exact ⟨rfl, rfl⟩
  · have hlt1 : pb < w.heap.size + 1 := by omega
    have hl2 := World.block_lt_of_cell? w _ c2
    have hl3 : sb < w.heap.size + 1 := by simp at hl2; omega
    go_enter Tryf.func12, Tryf.ntmps12
    go_wp2
    go_end0
    go_wp2
    go_ret
    exact ⟨ret_int (neg_neg64 x h1 hx), rfl⟩
  · have hlt1 : pb < w.heap.size + 1 := by omega
    have hl2 := World.block_lt_of_cell? w _ c2
    have hl3 : sb < w.heap.size + 1 := by simp at hl2; omega
    go_enter Tryf.func12, Tryf.ntmps12
    go_wp2
    go_end0
    go_wp2
    go_ret
    exact ⟨rfl, rfl⟩

set_option maxHeartbeats 400000 in
theorem exp_any (p : Value) (ex : Int) (w : World) :
    Calls Tryf.prog 13 #[.agg #[p, .int .i32 ex]] w (fun e w' => e = .returned (.int .i32 ex) ∧ w' = twoBoxes w #[p, .int .i32 ex]) := by
  go_enter Tryf.func13, Tryf.ntmps13
  go_wp2
  go_ret
  exact ⟨rfl, rfl⟩

theorem eq_ptr_no (d pb : Nat) (w : World) : (Op.equalIn (d + 1) 33 (.pointer (some ⟨pb, 0, none⟩)) (.pointer none)).run Tryf.prog w = .ok false w := by
  simp [Op.equalIn, run_underlying Tryf.underlying33]
theorem eq_ptr_yes (d : Nat) (w : World) : (Op.equalIn (d + 1) 33 (.pointer none) (.pointer none)).run Tryf.prog w = .ok true w := by
  simp [Op.equalIn, run_underlying Tryf.underlying33]
theorem eq_dec_no (pb : Nat) (ex : Int) (w : World) : (binOp .eql 35 (.agg #[.pointer (some ⟨pb, 0, none⟩), .int .i32 ex]) (.agg #[.pointer none, .int .i32 0])).run Tryf.prog w = .ok (.bool false) w := by
  kernel_rfl
theorem eq_dec_yes (w : World) : (binOp .eql 35 (.agg #[.pointer none, .int .i32 0]) (.agg #[.pointer none, .int .i32 0])).run Tryf.prog w = .ok (.bool true) w := by
  kernel_rfl

set_option maxHeartbeats 400000 in
theorem isZero_no (pb : Nat) (ex : Int) (w : World) :
    Calls Tryf.prog 11 #[.agg #[.pointer (some ⟨pb, 0, none⟩), .int .i32 ex]] w (fun e w' => e = .returned (.bool false) ∧ w' = w.alloc (.cells #[.pointer (some ⟨pb, 0, none⟩), .int .i32 ex] 35)) := by
  have hp := eq_ptr_no 9998 pb
  have hq := eq_dec_no pb ex
  go_enter Tryf.func11, Tryf.ntmps11
  go_wp2
  go_ret
  exact ⟨rfl, rfl⟩

set_option maxHeartbeats 400000 in
theorem isZero_yes (w : World) :
    Calls Tryf.prog 11 #[.agg #[.pointer none, .int .i32 0]] w (fun e w' => e = .returned (.bool true) ∧ w' = w.alloc (.cells #[.pointer none, .int .i32 0] 35)) := by
  have hp := eq_ptr_yes 9998
  have hq := eq_dec_yes
  go_enter Tryf.func11, Tryf.ntmps11
  go_wp2
  go_ret
  exact ⟨rfl, rfl⟩

end Go.Proofs.Qxb6604665aFmt
