/-
  DERIVED. THE READING FUNCTIONS: zzBytes_.., zzGradesBytes.
-/
import Derived.Test.Qxb6604665aFmtRows
import Derived.WalkKit
import Derived.WalkSpells
import Derived.WalkLawsBesides
namespace Go.Proofs.Qxb6604665aFmt
open Go.RowKit
set_option linter.unusedVariables false

/-- WHAT IS KNOWN OF A SLICE OF GRADES: if it has an element, it leads to rows of three cells. -/
def GrA (w : World) (a : Option Addr) (len : Nat) (N : Nat → ByteArray) (C X : Nat → Int) : Prop :=
  len < 1 ∨ ∃ b off, a = some ⟨b, off, none⟩ ∧ b < w.heap.size ∧ ∀ i, i < len → w.cell? ⟨b, off + i * 3, none⟩ = some (.string (N i)) ∧ w.cell? ⟨b, off + i * 3 + 1, none⟩ = some (.int .i64 (C i)) ∧ w.cell? ⟨b, off + i * 3 + 2, none⟩ = some (.int .i32 (X i))

/-- What zzBytes_FnOfGradeExactLookup is good for: it changes nothing; where it says true every length is at most 2^20. -/
def BytesSaid (len0 len1 : Nat) (gr : ByteArray) (N : Nat → ByteArray) (w : World) (e : Ending) (w' : World) : Prop :=
  ∃ r : Bool, e = .returned (.bool r) ∧ w' = w ∧ (r = true → len0 ≤ 1048576 ∧ len1 ≤ 1048576 ∧ gr.size ≤ 1048576 ∧ ∀ i, i < len0 → (N i).size ≤ 1048576)

theorem bytes_no {len0 len1 : Nat} {gr : ByteArray} {N : Nat → ByteArray} {w : World} : BytesSaid len0 len1 gr N w (.returned (.bool false)) w := ⟨false, rfl, rfl, by simp⟩
theorem bytes_yes {len0 len1 : Nat} {gr : ByteArray} {N : Nat → ByteArray} {w : World} {k : Nat} (h0 : (len0 : Int) ≤ 1048576) (h1 : (len1 : Int) ≤ 1048576) (h2 : (gr.size : Int) ≤ 1048576) (hk : ¬ k < len0) (hN : Hid (∀ j, j < k → (N j).size ≤ 1048576)) :
    BytesSaid len0 len1 gr N w (.returned (.bool true)) w := ⟨true, rfl, rfl, fun _ => ⟨by omega, by omega, by omega, fun i hi => hN.out i (by omega)⟩⟩
theorem hall_step {N : Nat → ByteArray} {k : Nat} (hN : Hid (∀ j, j < k → (N j).size ≤ 1048576)) (h : ((N k).size : Int) ≤ 1048576) : ∀ j, j < k + 1 → (N j).size ≤ 1048576 := by
  intro j hj
  by_cases e : j = k
  · subst e; omega
  · exact hN.out j (by omega)

set_option maxHeartbeats 400000 in
theorem bytes_any (a0 : Option Addr) (len0 cap0 : Nat) (a1 : Option Addr) (len1 cap1 : Nat) (sr : Bool) (gr : ByteArray) (N : Nat → ByteArray) (C X : Nat → Int) (w : World)
    (hg : GrA w a0 len0 N C X) (h0 : len0 ≤ maxLen) (h1 : len1 ≤ maxLen) (h2 : gr.size ≤ maxLen) :
    Calls Tryf.prog 5 #[.slice a0 len0 cap0, .slice a1 len1 cap1, .bool sr, .string gr] w (BytesSaid len0 len1 gr N w) := by
  unfold maxLen at h0 h1 h2
  by_cases hb0 : (1048576 : Int) < (len0 : Int)
  · go_enter Tryf.func5, Tryf.ntmps5
    go_wp2
    go_ret
    exact bytes_no
  have hd0 : decide ((1048576 : Int) < (len0 : Int)) = false := by simpa using hb0
  have hb0' : (len0 : Int) ≤ 1048576 := by omega
  clear hb0
  rcases hg with hz | ⟨b, off, rfl, hb, hc⟩
  all_goals
    go_enter Tryf.func5, Tryf.ntmps5
    go_wp2_with fail
    go_loop [9, 10] (fun n i => ∃ k : Nat, k ≤ len0 ∧ i = .int .i64 k ∧ ∃ t : Int, n = .int .i64 t ∧ 0 ≤ t ∧ t ≤ 1048576 ∧ ∀ j, j < k → (N j).size ≤ 1048576) (fun _ i => len0 - (intOf i).toNat)
    case atStart => exact ⟨0, Nat.zero_le _, rfl, _, rfl, by omega, by omega, fun j hj => absurd hj (Nat.not_lt_zero _)⟩
    case round =>
      obtain ⟨k, hk, rfl, t, rfl, ht0, ht1, hall⟩ := hrel
      have HA : Hid (∀ j, j < k → (N j).size ≤ 1048576) := hall
      clear hall
      go_wp2
      all_goals first
        | (go_round
           case rel => exact ⟨k + 1, by omega, by go_num, _, rfl, by omega, by omega, hall_step HA (by assumption)⟩
           case measure => simp [intOf]; omega)
        | (go_ret; exact bytes_no)
        | (go_ret; exact bytes_yes (k := k) (by assumption) (by assumption) (by assumption) (by omega) HA)

/-- A small number comes back, nothing has turned. -/
def NumSaid (w : World) (e : Ending) (w' : World) : Prop := ∃ n : Int, e = .returned (.int .i64 n) ∧ w' = w ∧ 0 ≤ n ∧ n ≤ 100000000
theorem num_said {w : World} {n : Int} (h : 0 ≤ n) (h' : n ≤ 100000000) : NumSaid w (.returned (.int .i64 n)) w := ⟨n, rfl, rfl, h, h'⟩

set_option maxHeartbeats 400000 in
theorem gradesBytes_any (a0 : Option Addr) (len0 cap0 : Nat) (a1 : Option Addr) (len1 cap1 : Nat) (N : Nat → ByteArray) (C X : Nat → Int) (w : World)
    (hg : GrA w a0 len0 N C X) (h0 : (len0 : Int) ≤ 1048576) (h1 : (len1 : Int) ≤ 1048576) (hN : ∀ i, i < len0 → (N i).size ≤ 1048576) :
    Calls Tryf.prog 6 #[.slice a0 len0 cap0, .slice a1 len1 cap1] w (NumSaid w) := by
  have HN : Hid (∀ i, i < len0 → (N i).size ≤ 1048576) := hN
  clear hN
  rcases hg with hz | ⟨b, off, rfl, hb, hc⟩
  all_goals
    go_enter Tryf.func6, Tryf.ntmps6
    go_wp2_with fail
    go_loop [5, 6] (fun n i => ∃ k : Nat, k ≤ len0 ∧ i = .int .i64 k ∧ ∃ t : Int, n = .int .i64 t ∧ 0 ≤ t ∧ t ≤ 58720256) (fun _ i => len0 - (intOf i).toNat)
    case atStart => exact ⟨0, Nat.zero_le _, rfl, _, rfl, by omega, by omega⟩
    case round =>
      obtain ⟨k, hk, rfl, t, rfl, ht0, ht1⟩ := hrel
      by_cases hlt : k < len0
      · first
          | (exfalso; omega)
          | (have hNk : ((N k).size : Int) ≤ 1048576 := by (have := HN.out k hlt; omega)
             go_wp2
             all_goals first
               | (go_round
                  case rel => exact ⟨k + 1, by omega, by go_num, _, rfl, by omega, by omega⟩
                  case measure => simp [intOf]; omega)
               | (go_ret; exact num_said (by omega) (by omega)))
      · go_wp2
        go_ret
        exact num_said (by omega) (by omega)

set_option maxHeartbeats 400000 in
theorem nameBytes_any (a0 : Option Addr) (len0 cap0 : Nat) (N : Nat → ByteArray) (C X : Nat → Int) (w : World)
    (hg : GrA w a0 len0 N C X) (h0 : (len0 : Int) ≤ 1048576) (hN : ∀ i, i < len0 → (N i).size ≤ 1048576) :
    Calls Tryf.prog 15 #[.slice a0 len0 cap0] w (NumSaid w) := by
  have HN : Hid (∀ i, i < len0 → (N i).size ≤ 1048576) := hN
  clear hN
  rcases hg with hz | ⟨b, off, rfl, hb, hc⟩
  all_goals
    go_enter Tryf.func15, Tryf.ntmps15
    go_wp2_with fail
    go_loop [3, 4] (fun n i => ∃ k : Nat, k ≤ len0 ∧ i = .int .i64 k ∧ ∃ t : Int, n = .int .i64 t ∧ 0 ≤ t ∧ t ≤ 58720256) (fun _ i => len0 - (intOf i).toNat)
    case atStart => exact ⟨0, Nat.zero_le _, rfl, _, rfl, by omega, by omega⟩
    case round =>
      obtain ⟨k, hk, rfl, t, rfl, ht0, ht1⟩ := hrel
      by_cases hlt : k < len0
      · first
          | (exfalso; omega)
          | (have hNk : ((N k).size : Int) ≤ 1048576 := by (have := HN.out k hlt; omega)
             go_wp2
             all_goals first
               | (go_round
                  case rel => exact ⟨k + 1, by omega, by go_num, _, rfl, by omega, by omega⟩
                  case measure => simp [intOf]; omega)
               | (go_ret; exact num_said (by omega) (by omega)))
      · go_wp2
        go_ret
        exact num_said (by omega) (by omega)

set_option maxHeartbeats 400000 in
theorem bytes2_any (a0 : Option Addr) (len0 cap0 : Nat) (a1 : Option Addr) (len1 cap1 : Nat) (sr : Bool) (N : Nat → ByteArray) (C X : Nat → Int) (w : World)
    (hg : GrA w a0 len0 N C X) (h0 : len0 ≤ maxLen) (h1 : len1 ≤ maxLen) :
    Calls Tryf.prog 14 #[.slice a0 len0 cap0, .slice a1 len1 cap1, .bool sr] w (BytesSaid len0 len1 ByteArray.empty N w) := by
  unfold maxLen at h0 h1
  by_cases hb0 : (1048576 : Int) < (len0 : Int)
  · go_enter Tryf.func14, Tryf.ntmps14
    go_wp2
    go_ret
    exact bytes_no
  have hd0 : decide ((1048576 : Int) < (len0 : Int)) = false := by simpa using hb0
  have hb0' : (len0 : Int) ≤ 1048576 := by omega
  clear hb0
  rcases hg with hz | ⟨b, off, rfl, hb, hc⟩
  all_goals
    go_enter Tryf.func14, Tryf.ntmps14
    go_wp2_with fail
    go_loop [7, 8] (fun n i => ∃ k : Nat, k ≤ len0 ∧ i = .int .i64 k ∧ ∃ t : Int, n = .int .i64 t ∧ 0 ≤ t ∧ t ≤ 1048576 ∧ ∀ j, j < k → (N j).size ≤ 1048576) (fun _ i => len0 - (intOf i).toNat)
    case atStart => exact ⟨0, Nat.zero_le _, rfl, _, rfl, by omega, by omega, fun j hj => absurd hj (Nat.not_lt_zero _)⟩
    case round =>
      obtain ⟨k, hk, rfl, t, rfl, ht0, ht1, hall⟩ := hrel
      have HA : Hid (∀ j, j < k → (N j).size ≤ 1048576) := hall
      clear hall
      go_wp2
      all_goals first
        | (go_round
           case rel => exact ⟨k + 1, by omega, by go_num, _, rfl, by omega, by omega, hall_step HA (by assumption)⟩
           case measure => simp [intOf]; omega)
        | (go_ret; exact bytes_no)
        | (go_ret; exact bytes_yes (k := k) (by assumption) (by assumption) (by decide) (by omega) HA)

end Go.Proofs.Qxb6604665aFmt
