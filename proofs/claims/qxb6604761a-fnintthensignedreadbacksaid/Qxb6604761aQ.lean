/-
  DERIVED. binary.AppendUvarint and AppendVarint onto a buffer of the call's own; stateWriter.signed; ZZsigned.
-/
import Derived.Test.Qxb6604761aO
namespace Go.Proofs.Qxb6604761a
open Go.RowKit
set_option linter.unusedVariables false

theorem block_setCells {g k : Nat} (hne : k ≠ g) : ∀ (vs : List Value) (o : Nat) (w : World), (w.setCells g o vs).heap[k]? = w.heap[k]?
  | [], o, w => rfl
  | v :: vs, o, w => by
    have h1 := block_setCells hne vs (o + 1) (w.setCell ⟨g, o, none⟩ v)
    have h2 := Below.heap_setCell w ⟨g, o, none⟩ v k hne
    simp only [World.setCells] at h1 ⊢
    exact h1.trans h2

/-- Nothing old has turned but block h. -/
structure Beside (h : Nat) (w w' : World) : Prop where
  os : w'.os = w.os
  tape : w'.tape = w.tape
  output : w'.output = w.output
  size : w.heap.size ≤ w'.heap.size
  block : ∀ k, k < w.heap.size → k ≠ h → w'.heap[k]? = w.heap[k]?
theorem Beside.refl (h : Nat) (w : World) : Beside h w w := ⟨rfl, rfl, rfl, Nat.le_refl _, fun _ _ _ => rfl⟩
theorem Beside.then {h : Nat} {w w1 w2 : World} (H : Beside h w w1) (hb : Below w1.heap.size w1 w2) : Beside h w w2 :=
  ⟨hb.os.trans H.os, hb.tape.trans H.tape, hb.output.trans H.output, Nat.le_trans H.size hb.size, fun k h1 h2 => (hb.block k (Nat.lt_of_lt_of_le h1 H.size)).trans (H.block k h1 h2)⟩
theorem Beside.setCells {h g o : Nat} {w w1 : World} (H : Beside h w w1) (hg : g = h ∨ w.heap.size ≤ g) (vs : List Value) : Beside h w (w1.setCells g o vs) := by
  have hb : Below g w1 (w1.setCells g o vs) := Lib.below_setCells_w (Nat.le_refl _) _ _ _
  refine ⟨hb.os.trans H.os, hb.tape.trans H.tape, hb.output.trans H.output, Nat.le_trans H.size hb.size, fun k h1 h2 => ?_⟩
  rw [← H.block k h1 h2]
  exact block_setCells (by omega) vs o w1
theorem Beside.below {h B : Nat} {w w' : World} (H : Beside h w w') (hB : B ≤ h) (hs : B ≤ w.heap.size) : Below B w w' := ⟨H.os, H.tape, H.output, H.size, fun k hk => H.block k (by omega) (by omega)⟩
theorem Beside.cell {h : Nat} {w w' : World} (H : Beside h w w') {p : Addr} (hp : p.block < w.heap.size) (hne : p.block ≠ h) : w'.cell? p = w.cell? p := World.cell?_of_block (w := w) (H.block p.block hp hne)
theorem Beside.frozen {h : Nat} {w w' : World} (H : Beside h w w') {p : Addr} (hp : p.block < w.heap.size) (hne : p.block ≠ h) : w'.frozen? p = w.frozen? p := World.frozen?_of_block (w := w) (H.block p.block hp hne)

theorem Buf.mono {w : World} {base base' h n cap : Nat} {f : Nat → Nat} (H : Buf w base h n cap f) (hb : base' ≤ base) : Buf w base' h n cap f := ⟨Nat.le_trans hb H.ge, H.lt, H.own, H.le, H.max, H.row⟩
theorem Buf.below {w w' : World} {base h n cap : Nat} {f : Nat → Nat} (H : Buf w base h n cap f) (hb : Below w.heap.size w w') : Buf w' base h n cap f := ⟨H.ge, Nat.lt_of_lt_of_le H.lt hb.size, H.own.below hb H.lt, H.le, H.max, H.row.below hb H.lt⟩
/-- One byte more, in the spare room. -/
theorem Buf.put {w : World} {base h n cap : Nat} {f : Nat → Nat} (H : Buf w base h n cap f) (hr : n + 1 ≤ cap) : Buf (w.setCells h (0 + n * 1) [.int .u8 ((f n : Nat) : Int)]) base h (n + 1) cap f := by
  have e : w.setCells h (0 + n * 1) [.int .u8 ((f n : Nat) : Int)] = w.setCell ⟨h, n, none⟩ (.int .u8 ((f n : Nat) : Int)) := by
    rw [Nat.zero_add, Nat.mul_one]; rfl
  rw [e]
  have ht : There w h cap := ⟨fun j hj => H.own.cell j hj, H.own.free⟩
  exact ⟨H.ge, by simpa using H.lt, H.own.setCell _ _, hr, H.max, H.row.step ht (by omega)⟩
/-- One byte more, in a new row. -/
theorem Buf.more {w : World} {base n : Nat} {v : Value} {f : Nat → Nat} (H : w.ownsRow base 5 1 v (n + 1) (cellsOf n f ++ [.int .u8 ((f n : Nat) : Int)])) : ∃ h cap, v = .slice (some ⟨h, 0, none⟩) (n + 1) cap ∧ Buf w base h (n + 1) cap f :=
  Buf.of_own H (by omega) fun j hj => by
    by_cases e : j < n
    · rw [List.getElem?_append_left (by rw [cellsOf_length]; exact e), cellsOf_get e]
    · obtain rfl : j = n := by omega
      rw [List.getElem?_append_right (by rw [cellsOf_length]; omega), cellsOf_length]
      simp

/-- WHAT APPENDING TO A BUFFER OF THE CALL's OWN IS GOOD FOR. -/
def OwnSaid (base h n : Nat) (F : Nat → Nat) (w : World) (e : Ending) (w' : World) : Prop :=
  ∃ g cap, e = .returned (.slice (some ⟨g, 0, none⟩) n cap) ∧ Buf w' base g n cap F ∧ Beside h w w' ∧ (g = h ∨ w.heap.size ≤ g)

theorem join_at (n k : Nat) (f g : Nat → Nat) : join n f g (n + k) = g k := by
  unfold join
  rw [if_neg (by omega), Nat.add_sub_cancel_left]

theorem Buf.cells {w : World} {base h n cap : Nat} {f : Nat → Nat} (H : Buf w base h n cap f) (j : Nat) (u : Value) (hj : (cellsOf n f)[j]? = some u) : w.cell? ⟨h, 0 + j, none⟩ = some u := by
  have hjn : j < n := by have := (List.getElem?_eq_some_iff.1 hj).1; rw [cellsOf_length] at this; exact this
  rw [cellsOf_get hjn] at hj
  rw [Nat.zero_add, ← hj]
  exact H.row j hjn
theorem Buf.spare {w : World} {base h n cap : Nat} {f : Nat → Nat} (H : Buf w base h n cap f) (hr : n + 1 ≤ cap) (j : Nat) (hj : j < 1) : (w.cell? ⟨h, 0 + n * 1 + j, none⟩).isSome = true ∧ w.frozen? ⟨h, 0 + n * 1 + j, none⟩ = false := by
  obtain ⟨v, hv⟩ := H.own.cell (0 + n * 1 + j) (by omega)
  exact ⟨by rw [hv]; rfl, H.own.free _⟩
theorem one_cell (wr : World) (v : Value) (j : Nat) (u : Value) (hj : [v][j]? = some u) : (wr.alloc (Obj.cells #[v] 5)).cell? (Addr.add ⟨wr.heap.size, 0, none⟩ j) = some u := by
  match j, hj with
  | 0, hj => simp at hj; subst hj; simp [Addr.add]

set_option maxRecDepth 100000 in
set_option maxHeartbeats 2000000 in
theorem uv_own (base h n cap x : Nat) (f : Nat → Nat) (w : World) (hx : x < 18446744073709551616) (hB : Buf w base h n cap f) (hbw : base ≤ w.heap.size) (hn : n ≤ 1048576) :
    Calls Try.prog 30 #[.slice (some ⟨h, 0, none⟩) n cap, .int .u64 x] w (OwnSaid base h (n + vlen x) (join n f (vb x)) w) := by
  obtain ⟨i0, hi, hz0, hz1, hz2⟩ := info_parts Try.info5
  have hlen : vlen x ≤ 10 := Lib.uvarint_length64 hx
  have hB0 : Buf w base h (n + 0) cap (join n f (vb x)) := ⟨hB.ge, hB.lt, hB.own, hB.le, hB.max, fun j hj => by unfold join; rw [if_pos (show j < n from hj)]; exact hB.row j hj⟩
  have HB0 := Hid.mk hB0
  clear hB hB0
  go_enter Try.func30, Try.ntmps30
  go_wp2_with fail
  go_loopw [0, 1] (fun vv vx wr => ∃ k g cap', k < vlen x ∧ vx = .int .u64 ((q7 x k : Nat) : Int) ∧ vv = .slice (some ⟨g, 0, none⟩) (n + k) cap' ∧ (g = h ∨ w.heap.size ≤ g) ∧ Buf wr base g (n + k) cap' (join n f (vb x)) ∧ Beside h w wr)
    (fun _ vx _ => (intOf vx).toNat)
  case atStart => exact ⟨0, h, cap, vlen_pos x, int_val (by rw [q7_zero]), rfl, .inl rfl, HB0.out, Beside.refl _ _⟩
  case round =>
    obtain ⟨k, g, cap', hk, rfl, rfl, hg, hbuf, hbes⟩ := hrel
    have hq := q7_le x k
    have hsz := hbes.size
    have hsu := q7_succ x k
    have hvk := vlen_lt k x
    have hja := join_at n k f (vb x)
    have hvb : vb x k = q7 x k % 128 + (if q7 x (k + 1) = 0 then 0 else 128) := rfl
    have hlook : k + 1 < vlen x ↔ q7 x (k + 1) ≠ 0 := hvk
    clear hvk
    have hbuf' : Buf (wr.alloc (Obj.cells #[Value.int .u8 ((vb x k : Nat) : Int)] 5)) base g (n + k) cap' (join n f (vb x)) := hbuf.below ((Below.refl _ _).alloc (Nat.le_refl _) _)
    have hbes' : Beside h w (wr.alloc (Obj.cells #[Value.int .u8 ((vb x k : Nat) : Int)] 5)) := hbes.then ((Below.refl _ _).alloc (Nat.le_refl _) _)
    have HBF := Hid.mk hbuf'
    have HBS := Hid.mk hbes'
    have HJA := Hid.mk hja
    have HLK := Hid.mk hlook
    have HSU := Hid.mk hsu
    clear hbuf hbes hbuf' hbes' hja hlook hsu
    by_cases h128 : 128 ≤ q7 x k
    · have hvv : bits .or .u8 (((q7 x k : Nat) : Int) % 256) 128 = ((vb x k : Nat) : Int) := by
        rw [Lib.u8_or128_any _ (by omega) (by omega), hvb, if_neg (by rw [HSU.out]; omega)]
        omega
      have hq1 : q7 x (k + 1) ≠ 0 := by rw [HSU.out]; omega
      clear hvb
      go_wp2_with (at_builtin; refine wpList_append_arg _ rfl _ _ 22 rfl 5 i0 (.int .u8 0) 1 1 Try.underlying22 hi hz0 hz1 hz2 rfl (by decide) g 0 (n + k) cap' (cellsOf (n + k) (join n f (vb x))) rfl (by rw [cellsOf_length, Nat.mul_one]) ?c0 ⟨wr.heap.size, 0, none⟩ 1 1 [Value.int .u8 ((vb x k : Nat) : Int)] rfl rfl ?c1 ?c2 ?c3 ?c4 ?c5 ?room ?grow)
      case c0 => first | exact HBF.out.cells | (intro j u hj; have hcj := HBF.out.cells j u hj; rwa [Nat.zero_add] at hcj)
      try case c1 => exact one_cell wr _
      case c2 => first | rfl | (intro u hu; simp at hu; subst hu; rfl)
      case c3 => first | (intro hr j hj; exact HBF.out.spare hr j hj) | (intro hr j hj; have hcj := HBF.out.spare hr j hj; rwa [Nat.zero_add, Nat.mul_one] at hcj) | (intro hr; have hcj := HBF.out.spare hr 0 (by omega); rwa [Nat.zero_add, Nat.mul_one, Nat.add_zero] at hcj)
      case c4 => unfold maxLen; omega
      case c5 => omega
      case room =>
        intro hr
        have hb2 := HBF.out.put hr
        rw [HJA.out] at hb2
        have hs2 := HBS.out.setCells (o := 0 + (n + k) * 1) hg [Value.int .u8 ((vb x k : Nat) : Int)]
        rw [Nat.zero_add, Nat.mul_one] at hb2 hs2
        have HB2 := Hid.mk hb2
        have HS2 := Hid.mk hs2
        clear hb2 hs2 HBF HBS
        go_wp2
        go_roundw
        case rel => exact ⟨k + 1, g, cap', HLK.out.2 hq1, int_val (by rw [HSU.out]; omega), rfl, hg, HB2.out, HS2.out⟩
        case measure => simp [intOf] <;> omega
      case grow =>
        intro hr v' w1 hown hgrow
        obtain ⟨g2, cap2, rfl, hb2⟩ := Buf.more (f := join n f (vb x)) (by rw [HJA.out]; exact hown)
        have hs2 := HBS.out.then ((Below.refl _ _).grown hgrow (Nat.le_refl _) (fun k hk => by cases hk))
        have hge : wr.heap.size + 1 ≤ g2 := by simpa using hb2.ge
        have hg2 : w.heap.size ≤ g2 := by omega
        have hb3 := hb2.mono (base' := base) (by omega)
        have HB2 := Hid.mk hb3
        have HS2 := Hid.mk hs2
        clear hb2 hb3 hs2 HBF HBS hown hgrow hge
        go_wp2
        go_roundw
        case rel => exact ⟨k + 1, g2, cap2, HLK.out.2 hq1, int_val (by rw [HSU.out]; omega), rfl, .inr hg2, HB2.out, HS2.out⟩
        case measure => simp [intOf] <;> omega
    · have hq0 : ¬ k + 1 < vlen x := fun h => by have := HLK.out.1 h; rw [HSU.out] at this; omega
      have hkv : k + 1 = vlen x := by omega
      have hvv : ((q7 x k : Nat) : Int) = ((vb x k : Nat) : Int) := by
        rw [hvb, if_pos (by rw [HSU.out]; omega)]
        omega
      have HKV := Hid.mk (show n + (k + 1) = n + vlen x by omega)
      clear hvb hq0 hkv
      rw [hvv]
      have hv1 : ((vb x k : Nat) : Int) < 128 := by omega
      have hv2 : ¬ (128 : Int) ≤ ((vb x k : Nat) : Int) := by omega
      clear hvv
      go_wp2_with (at_builtin; refine wpList_append_arg _ rfl _ _ 22 rfl 5 i0 (.int .u8 0) 1 1 Try.underlying22 hi hz0 hz1 hz2 rfl (by decide) g 0 (n + k) cap' (cellsOf (n + k) (join n f (vb x))) rfl (by rw [cellsOf_length, Nat.mul_one]) ?c0b ⟨wr.heap.size, 0, none⟩ 1 1 [Value.int .u8 ((vb x k : Nat) : Int)] rfl rfl ?c1b ?c2b ?c3b ?c4b ?c5b ?roomb ?growb)
      case c0b => first | exact HBF.out.cells | (intro j u hj; have hcj := HBF.out.cells j u hj; rwa [Nat.zero_add] at hcj)
      try case c1b => exact one_cell wr _
      case c2b => first | rfl | (intro u hu; simp at hu; subst hu; rfl)
      case c3b => first | (intro hr j hj; exact HBF.out.spare hr j hj) | (intro hr j hj; have hcj := HBF.out.spare hr j hj; rwa [Nat.zero_add, Nat.mul_one] at hcj) | (intro hr; have hcj := HBF.out.spare hr 0 (by omega); rwa [Nat.zero_add, Nat.mul_one, Nat.add_zero] at hcj)
      case c4b => unfold maxLen; omega
      case c5b => omega
      case roomb =>
        intro hr
        have hb2 := HBF.out.put hr
        rw [HJA.out] at hb2
        have hs2 := HBS.out.setCells (o := 0 + (n + k) * 1) hg [Value.int .u8 ((vb x k : Nat) : Int)]
        rw [Nat.zero_add, Nat.mul_one] at hb2 hs2
        have HB2 := Hid.mk hb2
        have HS2 := Hid.mk hs2
        clear hb2 hs2 HBF HBS
        go_wp2
        go_ret
        rw [← HKV.out]
        exact ⟨_, _, rfl, HB2.out, HS2.out, hg⟩
      case growb =>
        intro hr v' w1 hown hgrow
        obtain ⟨g2, cap2, rfl, hb2⟩ := Buf.more (f := join n f (vb x)) (by rw [HJA.out]; exact hown)
        have hs2 := HBS.out.then ((Below.refl _ _).grown hgrow (Nat.le_refl _) (fun k hk => by cases hk))
        have hge : wr.heap.size + 1 ≤ g2 := by simpa using hb2.ge
        have hg2 : w.heap.size ≤ g2 := by omega
        have hb3 := hb2.mono (base' := base) (by omega)
        have HB2 := Hid.mk hb3
        have HS2 := Hid.mk hs2
        clear hb2 hb3 hs2 HBF HBS hown hgrow hge
        go_wp2
        go_ret
        rw [← HKV.out]
        exact ⟨_, _, rfl, HB2.out, HS2.out, .inr hg2⟩

set_option maxRecDepth 100000 in
set_option maxHeartbeats 2000000 in
theorem varint_own (base h n cap : Nat) (x : Int) (f : Nat → Nat) (w : World) (h0 : -9223372036854775808 ≤ x) (h1 : x ≤ 9223372036854775807) (hB : Buf w base h n cap f) (hbw : base ≤ w.heap.size) (hn : n ≤ 1048576) :
    Calls Try.prog 22 #[.slice (some ⟨h, 0, none⟩) n cap, .int .i64 x] w (OwnSaid base h (n + vlen (Lib.zigzag x)) (join n f (vb (Lib.zigzag x))) w) := by
  have hU := uv_own base h n cap (Lib.zigzag x) f w (Lib.zigzag_lt h0 h1) hB hbw hn
  have HB := Hid.mk hB
  clear hB
  generalize n + vlen (Lib.zigzag x) = N at hU ⊢
  generalize join n f (vb (Lib.zigzag x)) = F at hU ⊢
  by_cases hneg : x < 0
  · rw [← Lib.zigzag_neg h0 hneg] at hU
    have HU := Hid.mk hU
    clear hU
    go_enter Try.func22, Try.ntmps22
    go_wp2_with fail
    refine HU.out.mono ?_
    rintro e w1 ⟨g, cap', rfl, hb, hs⟩
    have HH := Hid.mk hs
    clear hs
    go_wp2
    go_ret
    exact ⟨g, cap', rfl, hb, HH.out⟩
  · rw [Lib.zigzag_nonneg (by omega)] at hU
    have HU := Hid.mk hU
    clear hU
    go_enter Try.func22, Try.ntmps22
    go_wp2_with fail
    refine HU.out.mono ?_
    rintro e w1 ⟨g, cap', rfl, hb, hs⟩
    have HH := Hid.mk hs
    clear hs
    go_wp2
    go_ret
    exact ⟨g, cap', rfl, hb, HH.out⟩

/-- WHAT signed IS GOOD FOR. -/
def SgnSaid (sb base h n : Nat) (F : Nat → Nat) (w : World) (w' : World) : Prop :=
  ∃ w1 g cap, Beside h w w1 ∧ Buf w1 base g n cap F ∧ (g = h ∨ w.heap.size ≤ g) ∧ w' = w1.setCell ⟨sb, 0, none⟩ (.slice (some ⟨g, 0, none⟩) n cap)

set_option maxRecDepth 100000 in
set_option maxHeartbeats 400000 in
theorem signed_any (sb base h n cap : Nat) (x : Int) (f : Nat → Nat) (w : World) (h0 : -9223372036854775808 ≤ x) (h1 : x ≤ 9223372036854775807) (hB : Buf w base h n cap f) (hbw : base ≤ w.heap.size) (hn : n ≤ 1048576) (hs : sb < w.heap.size) (hsh : sb ≠ h) (hc : w.cell? ⟨sb, 0, none⟩ = some (.slice (some ⟨h, 0, none⟩) n cap)) (hfz : ∀ j, w.frozen? ⟨sb, j, none⟩ = false) :
    Calls Try.prog 19 #[.pointer (some ⟨sb, 0, none⟩), .int .i64 x] w (fun e w' => e = .returned (.tuple #[]) ∧ SgnSaid sb base h (n + vlen (Lib.zigzag x)) (join n f (vb (Lib.zigzag x))) w w') := by
  have HB := Hid.mk hB
  clear hB
  have HU := Hid.mk (varint_own base h n cap x f w h0 h1 HB.out hbw hn)
  generalize n + vlen (Lib.zigzag x) = N at HU ⊢
  generalize join n f (vb (Lib.zigzag x)) = F at HU ⊢
  go_enter Try.func19, Try.ntmps19
  go_wp2_with fail
  refine HU.out.mono ?_
  rintro e w1 ⟨g, cap', rfl, hb, hbs, hgg⟩
  have HGG := Hid.mk hgg
  clear hgg
  have s1 := (hbs.cell (p := ⟨sb, 0, none⟩) hs hsh).trans hc
  have z1 := fun j => (hbs.frozen (p := ⟨sb, j, none⟩) hs hsh).trans (hfz j)
  have HB1 := Hid.mk hb
  clear hb HU
  go_wp2
  go_end0
  exact ⟨rfl, w1, g, cap', hbs, HB1.out, HGG.out, rfl⟩

set_option maxRecDepth 100000 in
set_option maxHeartbeats 400000 in
theorem zzsigned_any (base h n cap : Nat) (x : Int) (f : Nat → Nat) (w : World) (h0 : -9223372036854775808 ≤ x) (h1 : x ≤ 9223372036854775807) (hB : Buf w base h n cap f) (hbw : base ≤ w.heap.size) (hn : n ≤ 1048576) :
    Calls Try.prog 8 #[.slice (some ⟨h, 0, none⟩) n cap, .int .i64 x] w (fun e w' => ∃ g cap', e = .returned (.slice (some ⟨g, 0, none⟩) (n + vlen (Lib.zigzag x)) cap') ∧ Buf w' base g (n + vlen (Lib.zigzag x)) cap' (join n f (vb (Lib.zigzag x))) ∧ Below base w w') := by
  have hlt := hB.lt
  have hge := hB.ge
  have hb0 : Below w.heap.size w (w.alloc (Obj.cells #[Value.slice (some ⟨h, 0, none⟩) n cap] 39)) := (Below.refl _ _).alloc (Nat.le_refl _) _
  have c0 : (w.alloc (Obj.cells #[Value.slice (some ⟨h, 0, none⟩) n cap] 39)).cell? ⟨w.heap.size, 0, none⟩ = some (.slice (some ⟨h, 0, none⟩) n cap) := World.cell?_alloc_at _ _ _ 0 rfl
  have z0 : ∀ j, (w.alloc (Obj.cells #[Value.slice (some ⟨h, 0, none⟩) n cap] 39)).frozen? ⟨w.heap.size, j, none⟩ = false := fun j => by simp
  have s0 : (w.alloc (Obj.cells #[Value.slice (some ⟨h, 0, none⟩) n cap] 39)).heap.size = w.heap.size + 1 := by simp
  have hB0 := hB.below hb0
  generalize hw0 : w.alloc (Obj.cells #[Value.slice (some ⟨h, 0, none⟩) n cap] 39) = w0 at hb0 c0 z0 s0 hB0
  have HU := Hid.mk (signed_any w.heap.size base h n cap x f w0 h0 h1 hB0 (by omega) hn (by omega) (by omega) c0 z0)
  have HB0 := Hid.mk hB0
  have HC0 := Hid.mk c0
  clear c0 z0 hB0 hB
  generalize n + vlen (Lib.zigzag x) = N at HU ⊢
  generalize join n f (vb (Lib.zigzag x)) = F at HU ⊢
  go_enter Try.func8, Try.ntmps8
  go_wp2_with fail
  clear hw0
  refine HU.out.mono ?_
  rintro e w2 ⟨rfl, w1, g, cap', hbs, hb, hgg, rfl⟩
  have hgs : g ≠ w.heap.size := by omega
  have s1 := (hbs.cell (p := ⟨w.heap.size, 0, none⟩) (by simp; omega) (by simp; omega)).trans HC0.out
  have c2 : (w1.setCell ⟨w.heap.size, 0, none⟩ (.slice (some ⟨g, 0, none⟩) N cap')).cell? ⟨w.heap.size, 0, none⟩ = some (.slice (some ⟨g, 0, none⟩) N cap') := World.cell?_setCell_same _ _ _ s1
  have hb2 : Buf (w1.setCell ⟨w.heap.size, 0, none⟩ (.slice (some ⟨g, 0, none⟩) N cap')) base g N cap' F := ⟨hb.ge, by simpa using hb.lt, hb.own.setCell _ _, hb.le, hb.max, fun j hj => (World.cell?_setCell_other _ _ _ _ (by intro e; cases e; exact hgs rfl)).trans (hb.row j hj)⟩
  have hbel : Below base w (w1.setCell ⟨w.heap.size, 0, none⟩ (.slice (some ⟨g, 0, none⟩) N cap')) := ((hb0.mono hbw).trans (hbs.below hge (by omega))).setCell hbw _
  generalize w1.setCell ⟨w.heap.size, 0, none⟩ (.slice (some ⟨g, 0, none⟩) N cap') = w2 at c2 hb2 hbel ⊢
  clear s1 hb hbs hgg HU
  have HB2 := Hid.mk hb2
  clear hb2
  go_wp2
  go_ret
  exact ⟨g, cap', rfl, HB2.out, hbel⟩

end Go.Proofs.Qxb6604761a
