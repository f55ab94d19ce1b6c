/-
  DERIVED. math/big's nat: norm, setBytes.
-/
import Derived.Test.Qxb6604761aM
namespace Go.Proofs.Qxb6604761a
open Go.RowKit
set_option linter.unusedVariables false

/-- The first m words lie at the head of block g. -/
def RowW (w : World) (g m : Nat) (W : Nat → Nat) : Prop := ∀ j, j < m → w.cell? ⟨g, j, none⟩ = some (.int .u64 ((W j : Nat) : Int))
theorem RowW.zero (w : World) (g : Nat) (f : Nat → Nat) : RowW w g 0 f := fun j hj => absurd hj (Nat.not_lt_zero _)
theorem RowW.step {w : World} {g k n : Nat} {f : Nat → Nat} (h : RowW w g k f) (ht : There w g n) (hk : k < n) : RowW (w.setCell ⟨g, k, none⟩ (.int .u64 ((f k : Nat) : Int))) g (k + 1) f := by
  intro j hj
  by_cases e : j = k
  · subst e; exact cell_set_same ht hk _
  · rw [cell_set_other (by omega)]; exact h j (by omega)
theorem RowW.below {w w' : World} {g k B : Nat} {f : Nat → Nat} (h : RowW w g k f) (hb : Below B w w') (hg : g < B) : RowW w' g k f := fun j hj => (hb.cell (p := ⟨g, j, none⟩) hg).trans (h j hj)

set_option maxRecDepth 100000 in
set_option maxHeartbeats 400000 in
theorem norm_nil (w : World) : Calls Try.prog 44 #[.slice none 0 0] w (fun e w' => e = .returned (.slice none 0 0) ∧ w' = w) := by
  go_enter Try.func44, Try.ntmps44
  go_wp2_with fail
  go_loop [3] (fun i => i = .int .i64 0) (fun _ => 0)
  case atStart => rfl
  case round =>
    obtain rfl := hrel
    go_wp2
    go_ret
    exact ⟨rfl, rfl⟩

set_option maxRecDepth 100000 in
set_option maxHeartbeats 400000 in
theorem norm_some (g m c K : Nat) (W : Nat → Nat) (w : World) (hr : RowW w g m W) (hm : (m : Int) ≤ 1048576) (hmc : m ≤ c) (hK : K ≤ m) (hz : ∀ k, K ≤ k → k < m → W k = 0) (hnz : 0 < K → W (K - 1) ≠ 0) (hc : (c : Int) ≤ 2097152) :
    Calls Try.prog 44 #[.slice (some ⟨g, 0, none⟩) m c] w (fun e w' => e = .returned (.slice (some ⟨g, 0, none⟩) K c) ∧ w' = w) := by
  have HZ := Hid.mk hz
  have HNZ := Hid.mk hnz
  have HR := Hid.mk hr
  clear hz hnz hr
  go_enter Try.func44, Try.ntmps44
  go_wp2_with fail
  go_loop [3] (fun i => ∃ k : Nat, K ≤ k ∧ k ≤ m ∧ i = .int .i64 k) (fun i => (intOf i).toNat)
  case atStart => exact ⟨m, hK, Nat.le_refl _, rfl⟩
  case round =>
    obtain ⟨k, hk, hkm, rfl⟩ := hrel
    by_cases hlt : K < k
    · have s0 := HR.out (k - 1) (by omega)
      rw [HZ.out (k - 1) (by omega) (by omega)] at s0
      have hp : (0 : Int) < (k : Int) := by omega
      have hp1 : (0 : Int) ≤ (k : Int) - 1 := by omega
      have hp2 : (k : Int) - 1 < (m : Int) := by omega
      go_wp2
      go_round
      case rel => exact ⟨k - 1, by omega, by omega, by go_num⟩
      case measure => simp [intOf] <;> omega
    · obtain rfl : k = K := by omega
      rcases Nat.eq_zero_or_pos k with rfl | hpos
      · have hp : ¬ (0 : Int) < ((0 : Nat) : Int) := by omega
        go_wp2
        go_ret
        exact ⟨rfl, rfl⟩
      · have s0 := HR.out (k - 1) (by omega)
        have hne : (((W (k - 1) : Nat) : Int) == 0) = false := by have := HNZ.out hpos; simp; omega
        have hp : (0 : Int) < (k : Int) := by omega
        have hp1 : (0 : Int) ≤ (k : Int) - 1 := by omega
        have hp2 : (k : Int) - 1 < (m : Int) := by omega
        go_wp2
        go_ret
        exact ⟨rfl, rfl⟩

/-- What setBytes is good for: K words, the number's own. -/
def SetSaid (f : Nat → Nat) (n K : Nat) (w : World) (e : Ending) (w' : World) : Prop :=
  ∃ ga c, e = .returned (.slice ga K c) ∧ (0 < K → ∃ g, ga = some ⟨g, 0, none⟩ ∧ w.heap.size ≤ g ∧ g < w'.heap.size ∧ RowW w' g K (wd f n)) ∧ Below w.heap.size w w'

theorem low_join (d x t : Nat) (ht : t < 8) (hd : d < 256 ^ t) (hx : x < 256) : bits .or .u64 (d : Int) (IntKind.u64.wrap ((x : Int) * 2 ^ (8 * t))) = ((d + x * 256 ^ t : Nat) : Int) := by
  have e : (2 : Int) ^ (8 * t) = ((256 ^ t : Nat) : Int) := by rw [Int.pow_mul]; simp
  have h64 : 256 ^ t * 256 ≤ 18446744073709551616 := by
    have h1 : 256 ^ (t + 1) ≤ 256 ^ 8 := Nat.pow_le_pow_right (by omega) (by omega)
    rw [Nat.pow_succ] at h1
    have h2 : (256 : Nat) ^ 8 = 18446744073709551616 := by decide
    omega
  have hx2 : x * 256 ^ t < 256 ^ t * 256 := by
    rw [Nat.mul_comm x]
    exact Nat.mul_lt_mul_of_pos_left hx (Nat.pow_pos (by omega))
  have e2 : (x : Int) * 2 ^ (8 * t) = ((x * 256 ^ t : Nat) : Int) := by rw [e]; simp
  have g1 : ((x * 256 ^ t : Nat) : Int) < 2 ^ 64 := by
    have : (2 : Int) ^ 64 = 18446744073709551616 := by decide
    omega
  have g2 : (d : Int) < 2 ^ 64 := by
    have : (2 : Int) ^ 64 = 18446744073709551616 := by decide
    omega
  have g3 : ((x * 256 ^ t : Nat) : Int) % 2 ^ (8 * t) = 0 := by
    rw [e, ← Int.natCast_emod, Nat.mul_mod_left]
    rfl
  have g4 : (d : Int) < 2 ^ (8 * t) := by rw [e]; omega
  rw [e2, wraps_u64 _ (by omega) g1, bits_join_low .u64 64 (by decide) wraps_u64 (8 * t) (d : Int) ((x * 256 ^ t : Nat) : Int) (by omega) g4 g2 (by omega) g3 g1]
  omega

set_option maxRecDepth 100000 in
set_option maxHeartbeats 400000 in
theorem bew (g o n c : Nat) (b0 b1 b2 b3 b4 b5 b6 b7 : Nat) (w : World) (hn : 8 ≤ n)
    (c0 : w.cell? ⟨g, o, none⟩ = some (.int .u8 (b7 : Int))) (c1 : w.cell? ⟨g, o + 1, none⟩ = some (.int .u8 (b6 : Int))) (c2 : w.cell? ⟨g, o + 2, none⟩ = some (.int .u8 (b5 : Int))) (c3 : w.cell? ⟨g, o + 3, none⟩ = some (.int .u8 (b4 : Int)))
    (c4 : w.cell? ⟨g, o + 4, none⟩ = some (.int .u8 (b3 : Int))) (c5 : w.cell? ⟨g, o + 5, none⟩ = some (.int .u8 (b2 : Int))) (c6 : w.cell? ⟨g, o + 6, none⟩ = some (.int .u8 (b1 : Int))) (c7 : w.cell? ⟨g, o + 7, none⟩ = some (.int .u8 (b0 : Int)))
    (h0 : b0 < 256) (h1 : b1 < 256) (h2 : b2 < 256) (h3 : b3 < 256) (h4 : b4 < 256) (h5 : b5 < 256) (h6 : b6 < 256) (h7 : b7 < 256) :
    Calls Try.prog 43 #[.slice (some ⟨g, o, none⟩) n c] w fun e w' => e = .returned (.int .u64 ((num8 b0 b1 b2 b3 b4 b5 b6 b7 : Nat) : Int)) ∧ Below w.heap.size w w' := by
  go_enter Try.func43, Try.ntmps43
  go_wp2_with fail
  refine (be64 g o n c b0 b1 b2 b3 b4 b5 b6 b7 w hn c0 c1 c2 c3 c4 c5 c6 c7 h0 h1 h2 h3 h4 h5 h6 h7).mono ?_
  rintro e w' ⟨rfl, hb⟩
  clear c0 c1 c2 c3 c4 c5 c6 c7
  go_wp2
  go_ret
  exact ⟨rfl, hb⟩

set_option maxRecDepth 100000 in
set_option maxHeartbeats 2000000 in
theorem setBytes_any (a : Option Addr) (n cap L : Nat) (f : Nat → Nat) (w : World) (hg : B8 w a n f) (hn : (n : Int) ≤ 1048576) (hcap : n ≤ cap) (hcap2 : cap ≤ maxLen) (hf : ∀ i, i < n → f i < 256) (hL : Len f n L) :
    Calls Try.prog 39 #[.slice none 0 0, .slice a n cap] w (SetSaid f n ((L + 7) / 8) w) := by
  unfold maxLen at hcap2
  have hdiv : ((n : Int) + 8 - 1) / 8 = (((n + 7) / 8 : Nat) : Int) := by omega
  have HD := Hid.mk hdiv
  clear hdiv
  go_enter Try.func39, Try.ntmps39
  go_wp2_with fail
  rw [HD.out]
  refine (nat_make ((n + 7) / 8) w (by omega)).mono ?_
  rintro e w1 (⟨hm, rfl, hw⟩ | ⟨hm, c, rfl, hmc, hc4, ht1, hs1, hb1⟩)
  · obtain rfl := hw.symm
    obtain rfl : n = 0 := by omega
    have hL0 : (L + 7) / 8 = 0 := by have := hL.le; omega
    have HL0 := Hid.mk hL0
    clear hL0
    go_wp2_with fail
    go_loop [5, 6] (fun i k => i = .int .i64 0 ∧ k = .int .i64 0) (fun _ _ => 0)
    case atStart => exact ⟨rfl, rfl⟩
    case round =>
      obtain ⟨rfl, rfl⟩ := hrel
      go_wp2_with (go_at_call 44; refine (norm_nil _).mono ?_; rintro e w' ⟨rfl, rfl⟩)
      go_ret
      rw [HL0.out]
      exact ⟨none, 0, rfl, fun h => absurd h (Nat.lt_irrefl _), Below.refl _ _⟩
  · generalize hmm : (n + 7) / 8 = m at *
    have HM := Hid.mk hmm
    clear hmm
    have hgb : 0 < n := by have := HM.out; omega
    rcases hg with hg | ⟨b, off, rfl, hb, hcell⟩
    · exfalso; omega
    go_wp2_with fail
    go_loopw [5, 6] (fun iv kv wr => ∃ q i : Nat, i + 8 * q ≤ n ∧ n ≤ i + 8 * q ∧ iv = .int .i64 i ∧ kv = .int .i64 q ∧ RowW wr w.heap.size q (wd f n) ∧ There wr w.heap.size m ∧ w.heap.size < wr.heap.size ∧ Below w.heap.size w wr) (fun iv _ _ => (intOf iv).toNat)
    case atStart => exact ⟨0, n, by omega, by omega, rfl, rfl, RowW.zero _ _ _, ht1, hs1, hb1⟩
    case round =>
      clear ht1 hs1 hb1
      obtain ⟨q, i, hq1, hq2, rfl, rfl, hrow, hth, hs, hbel⟩ := hrel
      have hm8 : n + 7 < 8 * m + 8 ∧ 8 * m ≤ n + 7 := by have := HM.out; omega
      by_cases h8 : 8 ≤ i
      · have hfi := fun j (hj : j < 8) => hf (i - 8 + j) (by omega)
        have hce := fun j (hj : j < 8) => (hbel.cell (p := ⟨b, off + (i - 8 + j), none⟩) hb).trans (hcell (i - 8 + j) (by omega))
        have s0 := hce 0 (by omega)
        have s1 := hce 1 (by omega)
        have s2 := hce 2 (by omega)
        have s3 := hce 3 (by omega)
        have s4 := hce 4 (by omega)
        have s5 := hce 5 (by omega)
        have s6 := hce 6 (by omega)
        have s7 := hce 7 (by omega)
        simp only [← Nat.add_assoc, Nat.add_zero] at s0 s1 s2 s3 s4 s5 s6 s7
        obtain ⟨u0, hu0⟩ := hth.cell q (by omega)
        have hfz := hth.free
        have hqm : (q : Int) < (m : Int) := by omega
        have h8i : (8 : Int) ≤ (i : Int) := by omega
        have HCE := Hid.mk hcell
        have HFI := Hid.mk hfi
        have HF := Hid.mk hf
        clear hce hcell hfi hf
        go_wp2_with fail
        refine (bew b (off + (i - 8)) (i - (i - 8)) (cap - (i - 8)) _ _ _ _ _ _ _ _ wr (by omega) s0 s1 s2 s3 s4 s5 s6 s7 (HFI.out 7 (by omega)) (HFI.out 6 (by omega)) (HFI.out 5 (by omega)) (HFI.out 4 (by omega)) (HFI.out 3 (by omega)) (HFI.out 2 (by omega)) (HFI.out 1 (by omega)) (by have := HFI.out 0 (by omega); simpa using this)).mono ?_
        rintro e w2 ⟨rfl, hb2⟩
        have hth2 : There w2 w.heap.size m := ⟨fun j hj => by obtain ⟨v, hv⟩ := hth.cell j hj; exact ⟨v, (hb2.cell (p := ⟨w.heap.size, j, none⟩) hs).trans hv⟩, fun j => (hb2.frozen (p := ⟨w.heap.size, j, none⟩) hs).trans (hth.free j)⟩
        have hrow2 := (hrow.below hb2 hs).step hth2 (show q < m by omega)
        rw [wd_full (show i + 8 * q = n by omega) h8] at hrow2
        have HR := Hid.mk hrow2
        have HT := Hid.mk hth2
        have u1 := (hb2.cell (p := ⟨w.heap.size, q, none⟩) hs).trans hu0
        have hf2 := hth2.free
        have hbel2 : Below w.heap.size w w2 := hbel.trans (hb2.mono hbel.size)
        have hs2 : w.heap.size < w2.heap.size := Nat.lt_of_lt_of_le hs hb2.size
        clear s0 s1 s2 s3 s4 s5 s6 s7 hb2 hrow2 hth2 hrow hth hfz hu0 hbel hs
        go_wp2
        go_roundw
        case rel => exact ⟨q + 1, i - 8, by omega, by omega, by go_num, by go_num, HR.out, HT.out.setCell _ _, by simpa using hs2, hbel2.setCell (Nat.le_refl _) _⟩
        case measure => simp [intOf] <;> omega
      · have h8i : ¬ (8 : Int) ≤ (i : Int) := by omega
        by_cases hi0 : i = 0
        · subst hi0
          obtain rfl : q = m := by omega
          have HR := Hid.mk hrow
          clear hrow
          go_wp2_with fail
          refine (norm_some w.heap.size q c ((L + 7) / 8) (wd f n) wr HR.out (by omega) hmc (by have := hL.le; omega) (fun k h1 _ => hL.word_zero h1) (fun h => by have := hL.word_top hf (by omega); rw [show (L + 7) / 8 - 1 = (L - 1) / 8 by omega]; exact this) (by omega)).mono ?_
          rintro e w3 ⟨rfl, hw⟩
          obtain rfl := hw.symm
          go_wp2
          go_ret
          exact ⟨_, _, rfl, fun h => ⟨w.heap.size, rfl, Nat.le_refl _, hs, fun j hj => HR.out j (by have := hL.le; omega)⟩, hbel⟩
        · have hpi : (0 : Int) < (i : Int) := by omega
          have HR := Hid.mk hrow
          have HT := Hid.mk hth
          clear hrow hth
          go_wp2_with fail
          go_loop [5, 7, 8] (fun iv dv sv => ∃ t j : Nat, j + t ≤ i ∧ i ≤ j + t ∧ iv = .int .i64 j ∧ dv = .int .u64 ((ps f i t : Nat) : Int) ∧ sv = .int .u64 ((8 * t : Nat) : Int)) (fun iv _ _ => (intOf iv).toNat)
          case atStart => exact ⟨0, i, by omega, by omega, rfl, by rw [ps_zero]; rfl, rfl⟩
          case round =>
            obtain ⟨t, j, ht1, ht2, rfl, rfl, rfl⟩ := hrel
            have hps := ps_lt (f := f) (i := i) (fun j hj => hf j (by omega)) t (by omega) (by omega)
            have hps8 : 256 ^ t ≤ 256 ^ 8 := Nat.pow_le_pow_right (by omega) (by omega)
            have hpsI : ((ps f i t : Nat) : Int) < 18446744073709551616 := by
              have h2 : (256 : Nat) ^ 8 = 18446744073709551616 := by decide
              omega
            by_cases hj0 : 0 < j
            · have hfj := hf (j - 1) (by omega)
              have s0 := (hbel.cell (p := ⟨b, off + (j - 1), none⟩) hb).trans (hcell (j - 1) (by omega))
              have hj1 : (0 : Int) ≤ (j : Int) - 1 := by omega
              have hj2 : (j : Int) - 1 < (n : Int) := by omega
              have ht8 : t < 8 := by omega
              have hjj : i - 1 - t = j - 1 := by omega
              have HV := Hid.mk (low_join (ps f i t) (f (j - 1)) t ht8 hps hfj)
              have HS := Hid.mk (ps_succ f i t ht8)
              have HJ := Hid.mk hjj
              have HCE := Hid.mk hcell
              have HF := Hid.mk hf
              clear hjj hcell hf hps hps8
              go_wp2
              go_round
              case rel => exact ⟨t + 1, j - 1, by omega, by omega, by go_num, int_val (by rw [HV.out, HS.out, HJ.out]), int_val (by omega)⟩
              case measure => simp [intOf] <;> omega
            · obtain rfl : j = 0 := by omega
              obtain rfl : t = i := by omega
              have hqm : q + 1 = m := by omega
              have hrow2 := HR.out.step HT.out (show q < m by omega)
              rw [wd_last (show t + 8 * q = n by omega) (by omega)] at hrow2
              have HR2 := Hid.mk hrow2
              have HL := Hid.mk hL
              have HF := Hid.mk hf
              obtain ⟨u0, hu0⟩ := HT.out.cell q (by omega)
              have hfz := HT.out.free
              have hq0 : (0 : Int) ≤ (m : Int) - 1 := by omega
              have hq1' : ((m : Int) - 1).toNat = q := by omega
              clear hrow2 hL hf hcell hps hps8 hqm
              go_wp2_with fail
              obtain rfl : m = q + 1 := by omega
              refine (norm_some w.heap.size (q + 1) c ((L + 7) / 8) (wd f n) _ (by exact HR2.out) (by omega) (by exact hmc) (by have := HL.out.le; omega) (fun k h1 _ => HL.out.word_zero h1) (fun h => by have := HL.out.word_top HF.out (by omega); rw [show (L + 7) / 8 - 1 = (L - 1) / 8 by omega]; exact this) (by omega)).mono ?_
              rintro e w3 ⟨rfl, hw⟩
              obtain rfl := hw
              go_wp2
              go_ret
              exact ⟨_, _, rfl, fun h => ⟨w.heap.size, rfl, Nat.le_refl _, by simpa using hs, fun j hj => HR2.out j (by have := HL.out.le; omega)⟩, hbel.setCell (Nat.le_refl _) _⟩

end Go.Proofs.Qxb6604761a
