/-
  DERIVED. math/big's nat.bytes, FillBytes.
-/
import Derived.Test.Qxb6604761aF
import Derived.Lib.SliceRun
import Derived.Lib.EndianMore
namespace Go.Proofs.Qxb6604761a
open Go.RowKit
set_option linter.unusedVariables false

/-- Block h is a whole row of cap bytes. -/
def OwnBlk (w : World) (h cap : Nat) : Prop := ∃ cur, w.heap[h]? = some (.cells cur 5 (0, 0)) ∧ cur.size = cap
theorem OwnBlk.setCell {w : World} {h cap : Nat} (H : OwnBlk w h cap) (a : Addr) (v : Value) : OwnBlk (w.setCell a v) h cap := by
  obtain ⟨cur, h1, h2⟩ := H
  by_cases e : a.block = h
  · subst e
    refine ⟨if a.spot.isSome then cur else cur.setIfInBounds a.off v, ?_, by split <;> simp [h2]⟩
    simp [World.setCell, Array.getElem?_modify, h1]
  · exact ⟨cur, by rw [Below.heap_setCell w a v h (fun e' => e e'.symm)]; exact h1, h2⟩
theorem OwnBlk.setCells {h cap : Nat} (b : Nat) : ∀ (vs : List Value) (o : Nat) (w : World), OwnBlk w h cap → OwnBlk (w.setCells b o vs) h cap
  | [], o, w, H => H
  | v :: vs, o, w, H => by
    have := OwnBlk.setCells b vs (o + 1) (w.setCell ⟨b, o, none⟩ v) (H.setCell _ _)
    simpa [World.setCells] using this
theorem OwnBlk.below {w w' : World} {h cap B : Nat} (H : OwnBlk w h cap) (hb : Below B w w') (hh : h < B) : OwnBlk w' h cap := by
  obtain ⟨cur, h1, h2⟩ := H
  exact ⟨cur, (hb.block h hh).trans h1, h2⟩

/-- The bytes F 0 .. F (T - 1) stand at the end of the L cells from ⟨h, o⟩ on; nothing else has turned. -/
structure Fill (B h o L : Nat) (w wr : World) (F : Nat → Nat) (T : Nat) : Prop where
  size : wr.heap.size = w.heap.size
  bel : Below B w wr
  keep : ∀ q : Addr, (q.block = h → q.off < o) → wr.cell? q = w.cell? q
  there : ∀ j, j < L → ∃ v, wr.cell? ⟨h, o + j, none⟩ = some v
  free : ∀ j, wr.frozen? ⟨h, j, none⟩ = false
  froz : ∀ q, wr.frozen? q = w.frozen? q
  blk : ∀ c, OwnBlk w h c → OwnBlk wr h c
  done : ∀ t, t < T → t < L → wr.cell? ⟨h, o + (L - 1 - t), none⟩ = some (.int .u8 ((F t : Nat) : Int))

theorem Fill.skip {B h o L T : Nat} {w wr : World} {F : Nat → Nat} (H : Fill B h o L w wr F T) (hT : L ≤ T) : Fill B h o L w wr F (T + 1) :=
  ⟨H.size, H.bel, H.keep, H.there, H.free, H.froz, H.blk, fun t h1 h2 => H.done t (by omega) h2⟩
theorem Fill.step {B h o L T i : Nat} {w wr : World} {F : Nat → Nat} (H : Fill B h o L w wr F T) (hB : B ≤ h) (hi : i + T = L) (hi0 : 0 < i) : Fill B h o L w (wr.setCell ⟨h, o + (i - 1), none⟩ (.int .u8 ((F T : Nat) : Int))) F (T + 1) := by
  have hin : ∀ j, o + (i - 1) ≠ o + j → (wr.setCell ⟨h, o + (i - 1), none⟩ (.int .u8 ((F T : Nat) : Int))).cell? ⟨h, o + j, none⟩ = wr.cell? ⟨h, o + j, none⟩ := fun j hj => cell_set_other hj _
  refine ⟨by simpa using H.size, H.bel.setCell hB _, fun q hq => ?_, fun j hj => ?_, fun j => by simpa using H.free j, fun q => by simpa using H.froz q, fun c hc => (H.blk c hc).setCell _ _, fun t h1 h2 => ?_⟩
  · rw [← H.keep q hq]
    exact World.cell?_setCell_other _ _ _ _ (by intro e; rw [← e] at hq; have := hq rfl; simp at this; omega)
  · obtain ⟨v, hv⟩ := H.there j hj
    by_cases e : i - 1 = j
    · subst e; exact ⟨_, World.cell?_setCell_same _ _ _ hv⟩
    · exact ⟨v, by rw [hin j (by omega)]; exact hv⟩
  · by_cases e : t = T
    · subst e
      obtain ⟨v, hv⟩ := H.there (i - 1) (by omega)
      rw [show L - 1 - t = i - 1 by omega]
      exact World.cell?_setCell_same _ _ _ hv
    · rw [hin _ (by omega)]; exact H.done t (by omega) h2

set_option maxRecDepth 100000 in
set_option maxHeartbeats 400000 in
theorem bytes_nil (ga a : Option Addr) (c cap : Nat) (w : World) : Calls Try.prog 38 #[.slice ga 0 c, .slice a 0 cap] w (fun e w' => (∃ v, e = .returned v) ∧ w' = w) := by
  go_enter Try.func38, Try.ntmps38
  go_wp2_with fail
  go_loop [4, 12] (fun i k => i = .int .i64 0 ∧ k = .int .i64 0) (fun _ _ => 0)
  case atStart => exact ⟨rfl, rfl⟩
  case round =>
    obtain ⟨rfl, rfl⟩ := hrel
    go_wp2_with fail
    go_loop [4] (fun i => i = .int .i64 0) (fun _ => 0)
    case atStart => rfl
    case round =>
      obtain rfl := hrel
      go_wp2
      go_ret
      exact ⟨⟨_, rfl⟩, rfl⟩

set_option maxRecDepth 100000 in
set_option maxHeartbeats 2000000 in
theorem bytes_some (B g K c h o L cap n : Nat) (f : Nat → Nat) (w : World) (hL : Len f n L) (hf : ∀ i, i < n → f i < 256) (hpos : 0 < L) (hn : (n : Int) ≤ 1048576) (hK : K = (L + 7) / 8) (hr : RowW w g K (wd f n)) (hgh : g ≠ h) (hB : B ≤ h)
    (h0 : Fill B h o L w w (bt f n) 0) : Calls Try.prog 38 #[.slice (some ⟨g, 0, none⟩) K c, .slice (some ⟨h, o, none⟩) L cap] w (fun e w' => (∃ v, e = .returned v) ∧ Fill B h o L w w' (bt f n) L) := by
  have hLn := hL.le
  have hK1 : 8 * K ≤ L + 7 := by omega
  have hK2 : L ≤ 8 * K := by omega
  have HL := Hid.mk hL
  have HF := Hid.mk hf
  have HR := Hid.mk hr
  clear hL hf hr hK
  go_enter Try.func38, Try.ntmps38
  go_wp2_with fail
  go_loopw [4, 12] (fun iv kv wr => ∃ k : Nat, k ≤ K ∧ iv = .int .i64 ((L : Int) - ((8 * k : Nat) : Int)) ∧ kv = .int .i64 k ∧ Hid (Fill B h o L w wr (bt f n) (8 * k))) (fun _ kv _ => K - (intOf kv).toNat)
  case atStart => exact ⟨0, by omega, int_val (by omega), rfl, Hid.mk h0⟩
  case round =>
    obtain ⟨k, hk, rfl, rfl, HFi⟩ := hrel
    by_cases hlt : k < K
    · have s0 : wr.cell? ⟨g, k, none⟩ = some (.int .u64 ((wd f n k : Nat) : Int)) := (HFi.out.keep _ (fun e => absurd e hgh)).trans (HR.out k hlt)
      have hkI : (k : Int) < (K : Int) := by omega
      go_wp2_with fail
      go_loopw [4, 6, 7] (fun iv dv jv wq => ∃ j : Nat, j ≤ 8 ∧ iv = .int .i64 ((L : Int) - ((8 * k + j : Nat) : Int)) ∧ dv = .int .u64 ((sh f n k j : Nat) : Int) ∧ jv = .int .i64 j ∧ Hid (Fill B h o L w wq (bt f n) (8 * k + j))) (fun _ _ jv _ => 8 - (intOf jv).toNat)
      case atStart => exact ⟨0, by omega, int_val (by omega), int_val (by rw [sh_zero]), rfl, HFi⟩
      case round =>
        clear HFi s0
        obtain ⟨j, hj, rfl, rfl, rfl, HFj⟩ := hrel
        by_cases hj8 : j < 8
        · have hjI : (j : Int) < 8 := by omega
          have hbyte := congrArg (fun x : Nat => (x : Int)) (sh_byte (n := n) HF.out k j hj8)
          have hsh := congrArg (fun x : Nat => (x : Int)) (sh_succ f n k j)
          have hle := sh_le f n k j
          have hwd := wd_lt HF.out k
          simp only [Int.natCast_emod, Int.natCast_ediv, Int.cast_ofNat_Int] at hbyte hsh
          have HSH := Hid.mk hsh
          clear hsh
          by_cases hTL : 8 * k + j < L
          · obtain ⟨i, hi⟩ : ∃ i, i + (8 * k + j) = L := ⟨L - (8 * k + j), by omega⟩
            rw [show (L : Int) - ((8 * k + j : Nat) : Int) = (i : Int) by omega]
            obtain ⟨u0, hu0⟩ := HFj.out.there (i - 1) (by omega)
            have hfz := HFj.out.free (o + (i - 1))
            have hi1 : (0 : Int) ≤ (i : Int) - 1 := by omega
            have hi2 : (i : Int) - 1 < (L : Int) := by omega
            have HS := Hid.mk (HFj.out.step hB hi (by omega))
            clear HFj
            go_wp2
            go_roundw
            case rel => exact ⟨j + 1, by omega, int_val (by omega), int_val (by rw [HSH.out]), int_val (by omega), HS⟩
            case measure => simp [intOf] <;> omega
          · have hbz : bt f n (8 * k + j) = 0 := HL.out.zero _ (by omega)
            rw [hbz] at hbyte
            obtain ⟨i, hi⟩ : ∃ i, i + L = 8 * k + j := ⟨8 * k + j - L, by omega⟩
            rw [show (L : Int) - ((8 * k + j : Nat) : Int) = -(i : Int) by omega]
            have hi1 : ¬ (0 : Int) ≤ -(i : Int) - 1 := by omega
            have hi3 : (i : Int) ≤ 16777216 := by omega
            have HS := Hid.mk (HFj.out.skip (by omega))
            clear HFj
            go_wp2
            go_roundw
            case rel => exact ⟨j + 1, by omega, int_val (by omega), int_val (by rw [HSH.out]), int_val (by omega), HS⟩
            case measure => simp [intOf] <;> omega
        · obtain rfl : j = 8 := by omega
          go_wp2
          go_roundw
          case rel => exact ⟨k + 1, by omega, int_val (by omega), int_val (by omega), HFj⟩
          case measure => simp [intOf] <;> omega
    · obtain rfl : k = K := by omega
      have HS : Hid (Fill B h o L w wr (bt f n) L) := Hid.mk ⟨HFi.out.size, HFi.out.bel, HFi.out.keep, HFi.out.there, HFi.out.free, HFi.out.froz, HFi.out.blk, fun t h1 h2 => HFi.out.done t (by omega) h2⟩
      have s1 := HS.out.done (L - 1) (by omega) (by omega)
      rw [show L - 1 - (L - 1) = 0 by omega, Nat.add_zero] at s1
      have hne : (((bt f n (L - 1) : Nat) : Int) == 0) = false := by have := HL.out.top hpos; simp; omega
      have hpI : (0 : Int) < (L : Int) := by omega
      clear HFi
      by_cases hL8 : L = 8 * k
      · rw [show (L : Int) - ((8 * k : Nat) : Int) = 0 by omega]
        clear hL8
        go_wp2_with fail
        go_loop [4] (fun i => i = .int .i64 0) (fun _ => 0)
        case atStart => rfl
        case round =>
          obtain rfl := hrel
          go_wp2
          go_ret
          exact ⟨⟨_, rfl⟩, HS.out⟩
      · have hneg : (L : Int) - ((8 * k : Nat) : Int) < 0 := by omega
        go_wp2_with fail
        go_loop [4] (fun i => i = .int .i64 0) (fun _ => 0)
        case atStart => rfl
        case round =>
          obtain rfl := hrel
          go_wp2
          go_ret
          exact ⟨⟨_, rfl⟩, HS.out⟩

set_option maxRecDepth 100000 in
set_option maxHeartbeats 400000 in
theorem Fill_nil (p c cap : Nat) (neg : Bool) (ga a : Option Addr) (w : World) (hI : IsInt w p neg ga 0 c) : Calls Try.prog 27 #[.pointer (some ⟨p, 0, none⟩), .slice a 0 cap] w (fun e w' => (∃ v, e = .returned v) ∧ w' = w) := by
  have hcl : ∀ ty, (Builtin.clear_ #[22] ty #[.slice a 0 cap]).run Try.prog w = .ok (.tuple #[]) w := fun ty => by
    cases a <;> simp [Builtin.clear_, run_underlying Try.underlying22]
  have s1 := hI.abs
  go_enter Try.func27, Try.ntmps27
  go_wp2_with (simp only [hcl])
  refine (bytes_nil ga a c cap w).mono ?_
  rintro e w' ⟨⟨v, rfl⟩, hw⟩
  obtain rfl := hw.symm
  go_wp2
  go_ret
  exact ⟨⟨_, rfl⟩, rfl⟩

theorem zero5 (w : World) : (zeroValue 5).run Try.prog w = .ok (.int .u8 0) w := by kernel_rfl
theorem size_setCells (b : Nat) : ∀ (vs : List Value) (o : Nat) (w : World), (w.setCells b o vs).heap.size = w.heap.size
  | [], o, w => rfl
  | v :: vs, o, w => by
    have := size_setCells b vs (o + 1) (w.setCell ⟨b, o, none⟩ v)
    simpa [World.setCells] using this

/-- The cells are laid to nought. -/
theorem Fill.wiped {B h o L : Nat} {w : World} (F : Nat → Nat) (hB : B ≤ h) (ht : ∀ j, j < L → ∃ v, w.cell? ⟨h, o + j, none⟩ = some v) (hf : ∀ j, w.frozen? ⟨h, j, none⟩ = false) : Fill B h o L w (w.setCells h o (List.replicate L (.int .u8 0))) F 0 := by
  have hb : Below B w (w.setCells h o (List.replicate L (.int .u8 0))) := Lib.below_setCells_w hB _ _ _
  refine ⟨?_, hb, fun q hq => ?_, fun j hj => ?_, fun j => by rw [World.frozen?_setCells]; exact hf j, fun q => World.frozen?_setCells _ _ _ _ _, fun c hc => OwnBlk.setCells _ _ _ _ hc, fun t h => absurd h (Nat.not_lt_zero _)⟩
  · exact size_setCells _ _ _ _
  · exact World.cell?_setCells_out h _ o w q (fun e _ => .inl (hq e))
  · exact ⟨_, World.cell?_setCells_in h _ o w (fun j hj => by obtain ⟨v, hv⟩ := ht j (by simpa using hj); rw [hv]; rfl) j (by simpa using hj)⟩

set_option maxRecDepth 100000 in
set_option maxHeartbeats 400000 in
theorem Fill_some (B p g K c h o L cap n : Nat) (f : Nat → Nat) (neg : Bool) (w : World) (hI : IsInt w p neg (some ⟨g, 0, none⟩) K c) (hL : Len f n L) (hf : ∀ i, i < n → f i < 256) (hpos : 0 < L) (hn : (n : Int) ≤ 1048576) (hK : K = (L + 7) / 8) (hr : RowW w g K (wd f n)) (hgh : g ≠ h) (hph : p ≠ h) (hB : B ≤ h)
    (ht : ∀ j, j < L → ∃ v, w.cell? ⟨h, o + j, none⟩ = some v) (hfz : ∀ j, w.frozen? ⟨h, j, none⟩ = false) :
    Calls Try.prog 27 #[.pointer (some ⟨p, 0, none⟩), .slice (some ⟨h, o, none⟩) L cap] w (fun e w' => (∃ v, e = .returned v) ∧ Fill B h o L w w' (bt f n) L) := by
  have hcl : ∀ ty, (Builtin.clear_ #[22] ty #[.slice (some ⟨h, o, none⟩) L cap]).run Try.prog w = .ok (.tuple #[]) (w.setCells h o (List.replicate L (.int .u8 0))) :=
    fun ty => Lib.run_clear_slice w 22 5 ty (.int .u8 0) Try.underlying22 zero5 rfl rfl h o L cap hpos (fun j hj => by obtain ⟨v, hv⟩ := ht j hj; rw [hv]; rfl) (fun j _ => hfz _)
  have hw0 := Fill.wiped (bt f n) hB ht hfz
  generalize w.setCells h o (List.replicate L (.int .u8 0)) = w1 at hcl hw0
  have s1 := (hw0.keep ⟨p, 1, none⟩ (fun e => absurd e hph)).trans hI.abs
  have HR : Hid (RowW w1 g K (wd f n)) := Hid.mk fun j hj => (hw0.keep ⟨g, j, none⟩ (fun e => absurd e hgh)).trans (hr j hj)
  have HW := Hid.mk hw0
  have HT := Hid.mk ht
  have HZ := Hid.mk hfz
  have HF := Hid.mk hf
  have HL := Hid.mk hL
  have HK := Hid.mk hK
  have hIlt := hI.lt
  clear hw0 ht hfz hf hL hr hK hI
  go_enter Try.func27, Try.ntmps27
  go_wp2_with (simp only [hcl])
  refine (bytes_some B g K c h o L cap n f w1 HL.out HF.out hpos hn HK.out HR.out hgh hB ⟨rfl, Below.refl _ _, fun _ _ => rfl, HW.out.there, HW.out.free, fun _ => rfl, fun _ h => h, fun t h => absurd h (Nat.not_lt_zero _)⟩).mono ?_
  rintro e w2 ⟨⟨v, rfl⟩, hfin⟩
  go_wp2
  go_ret
  exact ⟨⟨_, rfl⟩, hfin.size.trans HW.out.size, HW.out.bel.trans hfin.bel, fun q hq => (hfin.keep q hq).trans (HW.out.keep q hq), hfin.there, hfin.free, fun q => (hfin.froz q).trans (HW.out.froz q), fun c hc => hfin.blk c (HW.out.blk c hc), hfin.done⟩

end Go.Proofs.Qxb6604761a
