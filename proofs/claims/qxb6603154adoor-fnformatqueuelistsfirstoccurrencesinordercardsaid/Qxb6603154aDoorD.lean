/-
  DERIVED. zzReadCanon: a numeral read back; the clone of the ids.
-/
import Derived.Test.Qxb6603154aDoorC
import Derived.Laws.IdiomCopy
import Derived.Lib.EndianMore
import Derived.Lib.SliceRun
namespace Go.Proofs.Qxb6603154aDoor
open Go.RowKit
set_option linter.unusedVariables false

/-- The first k of D digits of u, as a number. -/
def pre10 (u D k : Nat) : Nat := u / 10 ^ (D - k)
/-- Digit k. -/
def dig (u D k : Nat) : Nat := u / 10 ^ (D - 1 - k) % 10
theorem dig_lt (u D k : Nat) : dig u D k < 10 := Nat.mod_lt _ (by omega)
theorem pre10_succ (u D k : Nat) (hk : k < D) : pre10 u D (k + 1) = pre10 u D k * 10 + dig u D k := by
  unfold pre10 dig
  obtain ⟨m, hm⟩ : ∃ m, D - k = m + 1 := ⟨D - k - 1, by omega⟩
  rw [show D - (k + 1) = m by omega, show D - 1 - k = m by omega, hm, Nat.pow_succ, ← Nat.div_div_eq_div_mul]
  omega
theorem pre10_zero (u D : Nat) (h : u < 10 ^ D) : pre10 u D 0 = 0 := Nat.div_eq_of_lt h
theorem pre10_all (u D : Nat) : pre10 u D D = u := by simp [pre10]
theorem pre10_le (u D k : Nat) (hk : k < D) : pre10 u D k * 10 + dig u D k ≤ u := by
  rw [← pre10_succ u D k hk]
  exact Nat.div_le_self _ _
theorem pow_le_dec (u : Nat) (h : 0 < u) : 10 ^ (Lib.nDigits u - 1) ≤ u := by
  induction u using Nat.strongRecOn with
  | ind u ih =>
    by_cases h10 : u < 10
    · rw [Lib.nDigits_small h10]; exact h
    · rw [Lib.nDigits_big h10, Nat.add_sub_cancel]
      have h1 := ih (u / 10) (by omega) (by omega)
      have h2 := Lib.nDigits_pos (u / 10)
      obtain ⟨m, hm⟩ : ∃ m, Lib.nDigits (u / 10) = m + 1 := ⟨Lib.nDigits (u / 10) - 1, by omega⟩
      rw [hm] at h1 ⊢
      rw [Nat.add_sub_cancel] at h1
      rw [Nat.pow_succ]
      omega

/-- u's numeral, without a zero ahead. -/
structure Canon (s : ByteArray) (u : Nat) : Prop where
  pos : 0 < s.size
  le : s.size ≤ 20
  lt : u < 10 ^ s.size
  max : u < 18446744073709551616
  dig : ∀ t (h : t < s.size), (s[t]'h).toNat = 48 + dig u s.size t
  lead : 1 < s.size → 0 < Qxb6603154aDoor.dig u s.size 0
theorem canon_dec (u : Nat) (h : u < 18446744073709551616) : Canon ⟨(Lib.decDigits u).toArray⟩ u := by
  have hs : (⟨(Lib.decDigits u).toArray⟩ : ByteArray).size = Lib.nDigits u := Lib.decDigits_length u
  refine ⟨by rw [hs]; exact Lib.nDigits_pos u, by rw [hs]; exact Lib.nDigits_le20 u h, by rw [hs]; exact Lib.lt_pow_nDigits u, h, fun t ht => ?_, fun h1 => ?_⟩
  · have e : (⟨(Lib.decDigits u).toArray⟩ : ByteArray)[t]'ht = (Lib.decDigits u)[t]'ht := rfl
    rw [e, hs]
    simp only [Lib.decDigits_eq u, List.getElem_map, List.getElem_range, Lib.dg]
    have := dig_lt u (Lib.nDigits u) t
    unfold dig at this ⊢
    rw [UInt8.toNat_ofNat']
    omega
  · rw [hs] at h1 ⊢
    unfold dig
    rw [Nat.sub_zero]
    have h2 : 0 < u := by
      rcases Nat.eq_zero_or_pos u with rfl | h
      · rw [Lib.nDigits_small (by omega)] at h1; omega
      · exact h
    have h3 := pow_le_dec u h2
    have h4 := Lib.lt_pow_nDigits u
    obtain ⟨m, hm⟩ : ∃ m, Lib.nDigits u = m + 1 := ⟨Lib.nDigits u - 1, by omega⟩
    rw [hm] at h3 h4 ⊢
    rw [Nat.add_sub_cancel] at h3 ⊢
    rw [Nat.pow_succ] at h4
    have h5 : u / 10 ^ m < 10 := Nat.div_lt_of_lt_mul h4
    have h6 : 0 < u / 10 ^ m := Nat.div_pos h3 (Nat.pow_pos (by omega))
    omega

set_option maxRecDepth 100000 in
set_option maxHeartbeats 2000000 in
theorem canon_any (s : ByteArray) (u : Nat) (w : World) (hC : Canon s u) :
    Calls Tryd.prog 16 #[.string s] w (fun e w' => e = .returned (.tuple #[.int .u64 (u : Int), .bool true]) ∧ w' = w) := by
  have hpos := hC.pos
  have hle := hC.le
  have hmax := hC.max
  have hne : ((s.size : Int) == 0) = false := by rw [beq_eq_false_iff_ne]; omega
  have i20 : ¬ (20 : Int) < (s.size : Int) := by omega
  have h0 : (s[0]'hpos).toNat = 48 + dig u s.size 0 := hC.dig 0 hpos
  have hd0 := dig_lt u s.size 0
  have hld := hC.lead
  have HC := Hid.mk hC
  clear hC
  generalize dig u s.size 0 = d0 at h0 hd0 hld
  go_enter Tryd.func16, Tryd.ntmps16
  go_upto_region 3 with fail
  go_cut [23] (fun v w' => v = .bool false ∧ w' = w)
  case first =>
    by_cases h1 : 1 < s.size
    · have hI : (1 : Int) < (s.size : Int) := by omega
      have hd := hld h1
      have hne2 : ((48 : Int) + (d0 : Int) == 48) = false := by rw [beq_eq_false_iff_ne]; omega
      go_wp2
      go_meet
      case rel => exact ⟨rfl, rfl⟩
    · have hI : ¬ (1 : Int) < (s.size : Int) := by omega
      go_wp2
      go_meet
      case rel => exact ⟨rfl, rfl⟩
  case rest =>
    obtain ⟨rfl, hw⟩ := hcut
    obtain rfl := hw.symm
    clear hw h0 hd0 hld
    go_wp2_with fail
    go_loop [4, 5] (fun uv iv => ∃ k : Nat, k ≤ s.size ∧ iv = .int .i64 (k : Int) ∧ uv = .int .u64 ((pre10 u s.size k : Nat) : Int)) (fun _ iv => s.size - (intOf iv).toNat)
    case atStart => exact ⟨0, by omega, rfl, int_val (by rw [pre10_zero u _ HC.out.lt]; rfl)⟩
    case round =>
      obtain ⟨k, hk, rfl, rfl⟩ := hrel
      by_cases hlt : k < s.size
      · have hc := HC.out.dig k hlt
        have hP := pre10_le u s.size k hlt
        have hS := pre10_succ u s.size k hlt
        have hd := dig_lt u s.size k
        generalize pre10 u s.size k = P at *
        generalize dig u s.size k = d at *
        have HS := Hid.mk hS
        clear hS
        have k0 : (0 : Int) ≤ (k : Int) := by omega
        have k1 : (k : Int) < (s.size : Int) := by omega
        have t1 : ¬ (48 : Int) + (d : Int) < 48 := by omega
        have t2 : ¬ (57 : Int) < 48 + (d : Int) := by omega
        have t3 : ¬ ((18446744073709551615 - (d : Int)) / 10 < (P : Int)) := by omega
        go_wp2
        go_round
        case rel => exact ⟨k + 1, by omega, by go_num, int_val (by rw [HS.out]; omega)⟩
        case measure => simp [intOf] <;> omega
      · obtain rfl : k = s.size := by omega
        rw [pre10_all]
        clear hlt
        go_wp2
        exact bodyPost_ret (v := .tuple #[.int .u64 (u : Int), .bool true]) (by simp [results, Tryd.results16, go_sem]) rfl ⟨rfl, rfl⟩

/-! ### The clone -/
theorem info25 : (Tryd.prog.info? 25).map (fun i => (i.zero, i.size, i.bytes)) = some (some (.int .u64 0), 1, 8) := by kernel_rfl

/-- m cells are there from the head of block g on, none of it frozen. -/
def There (w : World) (g m : Nat) : Prop := (∀ j, j < m → ∃ v, w.cell? ⟨g, j, none⟩ = some v) ∧ ∀ j, w.frozen? ⟨g, j, none⟩ = false
theorem made_row {w1 : World} {base e size g n cap : Nat} {xs : List Value} (h : w1.ownsRow base e size (.slice (some ⟨g, 0, none⟩) n cap) n xs) : There w1 g (n * size) := by
  refine ⟨fun j hj => ?_, fun j => h.frozenAt j⟩
  rw [h.cellAt j hj]
  have hl := h.1
  exact ⟨_, List.getElem?_eq_getElem (by rw [hl]; exact hj)⟩
/-- n numbers as cells. -/
def cellsOf (n : Nat) (V : Nat → Nat) : List Value := (List.range n).map fun j => Value.int .u64 (V j : Int)
theorem cellsOf_length (n : Nat) (V : Nat → Nat) : (cellsOf n V).length = n := by simp [cellsOf]
theorem cellsOf_get {n : Nat} {V : Nat → Nat} {j : Nat} (hj : j < n) : (cellsOf n V)[j]? = some (Value.int .u64 (V j : Int)) := by simp [cellsOf, hj]

/-- WHAT IS KNOWN OF A SLICE OF uint64s THAT CAME IN. -/
structure Came (w : World) (a : Option Addr) (n cap : Nat) (V : Nat → Nat) : Prop where
  nums : Nums w a n V
  none : a = none → n = 0 ∧ cap = 0
  le : n ≤ cap
  max : cap ≤ maxLen
  lim : ∀ i, i < n → V i < 18446744073709551616

/-- The copy: what it writes, and what it leaves. -/
theorem copied {w w1 : World} {a : Option Addr} {n cap : Nat} {V : Nat → Nat} (hI : Nums w a n V) (hn0 : 0 < n) (hb : Below w.heap.size w w1) (ht : There w1 w.heap.size n) (hs : w.heap.size < w1.heap.size) :
    (∀ ty, (Builtin.copy_ #[32, 32] ty #[.slice (some ⟨w.heap.size, 0, none⟩) n n, .slice a n cap]).run Tryd.prog w1 = .ok (.int .i64 (n : Int)) (w1.setCells w.heap.size 0 (cellsOf n V))) ∧
    Nums (w1.setCells w.heap.size 0 (cellsOf n V)) (some ⟨w.heap.size, 0, none⟩) n V ∧ Below w.heap.size w (w1.setCells w.heap.size 0 (cellsOf n V)) := by
  rcases hI with hI | ⟨b, off, rfl, hb', hc⟩
  · exfalso; omega
  have hsome : ∀ j, j < (cellsOf n V).length → (w1.cell? ⟨w.heap.size, 0 + j, none⟩).isSome = true := fun j hj => by
    obtain ⟨v, hv⟩ := ht.1 j (by rw [cellsOf_length] at hj; exact hj)
    rw [Nat.zero_add, hv]; rfl
  have hbel : Below w.heap.size w1 (w1.setCells w.heap.size 0 (cellsOf n V)) := Lib.below_setCells_w (Nat.le_refl _) _ _ _
  refine ⟨fun ty => ?_, .inr ⟨w.heap.size, 0, rfl, Nat.lt_of_lt_of_le hs hbel.size, fun i hi => ?_⟩, hb.trans hbel⟩
  · have h := run_copy_cells (P := Tryd.prog) w1 32 32 ty 25 w.heap.size 0 n n ⟨b, off, none⟩ n cap (cellsOf n V) Tryd.underlying32 (by kernel_rfl) (by rw [cellsOf_length]; exact (Nat.min_self n).symm)
      (fun j v hj => by
        have hjn : j < n := by have := (List.getElem?_eq_some_iff.1 hj).1; rw [cellsOf_length] at this; exact this
        rw [cellsOf_get hjn] at hj
        rw [Addr.add_lit, ← hj]
        exact (hb.cell (p := ⟨b, off + j, none⟩) hb').trans (hc j hjn)) hsome (fun j _ => ht.2 _) (fun v hv => by
        obtain ⟨j, _, rfl⟩ := List.mem_map.1 hv
        rfl)
    rw [cellsOf_length] at h
    exact h
  · have h := World.cell?_setCells_in w.heap.size (cellsOf n V) 0 w1 hsome i (by rw [cellsOf_length]; exact hi)
    rw [h]
    simp [cellsOf]
theorem copy_any {w w1 : World} {a : Option Addr} {n cap : Nat} {V : Nat → Nat} (hI : Nums w a n V) (hb : Below w.heap.size w w1) (ht : There w1 w.heap.size n) (hs : w.heap.size < w1.heap.size) :
    ∃ w2, (∀ ty, (Builtin.copy_ #[32, 32] ty #[.slice (some ⟨w.heap.size, 0, none⟩) n n, .slice a n cap]).run Tryd.prog w1 = .ok (.int .i64 (n : Int)) w2) ∧ Nums w2 (some ⟨w.heap.size, 0, none⟩) n V ∧ Below w.heap.size w w2 := by
  rcases Nat.eq_zero_or_pos n with rfl | hn0
  · exact ⟨w1, fun ty => run_copy_none (P := Tryd.prog) w1 32 32 ty 25 _ _ 0 0 0 cap Tryd.underlying32 (by kernel_rfl) (by rfl), .inl (by omega), hb⟩
  · obtain ⟨h1, h2, h3⟩ := copied (cap := cap) hI hn0 hb ht hs
    exact ⟨_, h1, h2, h3⟩

set_option maxRecDepth 100000 in
set_option maxHeartbeats 1000000 in
theorem clone_any (a : Option Addr) (n cap : Nat) (V : Nat → Nat) (w : World) (h : Came w a n cap V) (hn : n ≤ 131072) :
    Calls Tryd.prog 14 #[.slice a n cap] w (fun e w' => ∃ a' c', e = .returned (.slice a' n c') ∧ Nums w' a' n V ∧ Below w.heap.size w w') := by
  obtain ⟨i0, hi, hz0, hz1, hz2⟩ := info_parts info25
  have hnil := fun (w : World) (a : Option Addr) (n c : Nat) => Lib.run_eql_slice_nil (P := Tryd.prog) w 32 25 a n c 0 0 Tryd.underlying32
  have H := Hid.mk h
  clear h
  go_enter Tryd.func14, Tryd.ntmps14
  cases a with
  | none =>
    obtain ⟨rfl, rfl⟩ := H.out.none rfl
    go_wp2
    go_ret
    exact ⟨_, _, rfl, H.out.nums, Below.refl _ _⟩
  | some x =>
    go_wp2_with (at_make; refine wpList_make_full _ rfl _ _ 32 rfl w.heap.size 25 i0 _ 1 Tryd.underlying32 hi hz0 hz1 .i64 .i64 _ _ n rfl rfl (by omega) (by omega) (by rw [hz2]; omega) (by unfold maxLen; omega) (Nat.le_refl _) ?_; intro w1 hown hgrow)
    have ht1 := made_row hown
    rw [Nat.mul_one] at ht1
    have hs1 : w.heap.size < w1.heap.size := (hown.lt _ rfl).2
    have hb1 : Below w.heap.size w w1 := (Below.refl _ _).grown hgrow (Nat.le_refl _) (fun k hk => by cases hk)
    obtain ⟨w2, hcp, hI2, hb2⟩ := copy_any (cap := cap) H.out.nums hb1 ht1 hs1
    have HI2 := Hid.mk hI2
    clear hown hgrow hI2 ht1
    simp only [hcp]
    clear hcp
    go_wp2
    go_ret
    exact ⟨_, _, rfl, HI2.out, hb2⟩

end Go.Proofs.Qxb6603154aDoor
