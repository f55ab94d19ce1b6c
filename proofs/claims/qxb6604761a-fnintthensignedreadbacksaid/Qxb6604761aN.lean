/-
  DERIVED. stateWriter.int, ZZint.
-/
import Derived.Test.Qxb6604761aJ
import Derived.Deep.DeepCutAuto
namespace Go.Proofs.Qxb6604761a
open Go.RowKit
set_option linter.unusedVariables false

/-- The head: the size twice, the sign besides. -/
def hd (neg : Bool) (L : Nat) : Nat := 2 * L + (neg && decide (0 < L)).toNat
theorem hd_lt (neg : Bool) {L : Nat} (h : L ≤ 1048576) : hd neg L ≤ 2097153 := by
  unfold hd
  have := Bool.toNat_le (neg && decide (0 < L))
  omega

/-- The whole: b, the head's varint, the magnitude's L bytes. -/
def whole (n : Nat) (fb : Nat → Nat) (x : Nat) (f : Nat → Nat) (nn L : Nat) : Nat → Nat := join (n + vlen x) (join n fb (vb x)) (fun j => bt f nn (L - 1 - j))

def IntoSaid (sb N n : Nat) (F : Nat → Nat) (w : World) (w' : World) : Prop :=
  ∃ h cap, w'.cell? ⟨sb, 0, none⟩ = some (.slice (some ⟨h, 0, none⟩) n cap) ∧ Buf w' N h n cap F ∧ Below sb w w'

/-- THE SIGN's TEST. -/
theorem sgn_lt (neg : Bool) (K : Nat) : (sgnOf (neg && decide (0 < K)) K < 0) ↔ (neg && decide (0 < K)) = true := by
  unfold sgnOf
  by_cases h : K = 0
  · subst h; simp
  · rw [if_neg h]
    cases neg <;> simp <;> omega

theorem Buf.drew {w : World} {base h n cap : Nat} {f : Nat → Nat} (H : Buf w base h n cap f) : Buf w.drew base h n cap f := ⟨H.ge, H.lt, H.own, H.le, H.max, H.row⟩

/-- BEHIND uint. -/
structure Mid (w w2 : World) (sb p h m cap : Nat) (F : Nat → Nat) (neg : Bool) (ga : Option Addr) (K c : Nat) (W : Nat → Nat) : Prop where
  cell : w2.cell? ⟨sb, 0, none⟩ = some (.slice (some ⟨h, 0, none⟩) m cap)
  free : ∀ j, w2.frozen? ⟨sb, j, none⟩ = false
  int : IsInt w2 p neg ga K c
  words : Words (p + 1) w2 ga K W
  top : ∀ g, ga = some ⟨g, 0, none⟩ → 0 < K → g < w.heap.size
  buf : Buf w2 w.heap.size h m cap F
  bel : Below sb w w2
  size : w.heap.size ≤ w2.heap.size

theorem mid_of {sb p m K c : Nat} {neg : Bool} {ga : Option Addr} {F W : Nat → Nat} {v : Value} {w w2 : World} (hsp : sb < p) (hI : IsInt w p neg ga K c) (hW : Words (p + 1) w ga K W) (hc : w.cell? ⟨sb, 0, none⟩ = some v) (hfz : ∀ j, w.frozen? ⟨sb, j, none⟩ = false) (hU : UintSaid sb m F w w2) :
    ∃ h cap, Mid w w2 sb p h m cap F neg ga K c W := by
  obtain ⟨w1, h, cap, hb1, hbuf, rfl⟩ := hU
  have hp := hI.lt
  have hsb : sb < w.heap.size := by omega
  have hI1 := hI.below hb1 hp
  have hcs := (hb1.cell (p := ⟨sb, 0, none⟩) hsb).trans hc
  have hge := hbuf.ge
  have hlt := hbuf.lt
  have hb2 : Below sb w (w1.setCell ⟨sb, 0, none⟩ (.slice (some ⟨h, 0, none⟩) m cap)) := (hb1.mono (Nat.le_of_lt hsb)).setCell (Nat.le_refl _) _
  refine ⟨h, cap, World.cell?_setCell_same _ _ _ hcs, fun j => by simpa using (hb1.frozen (p := ⟨sb, j, none⟩) hsb).trans (hfz j), ?_, ?_, ?_, ?_, hb2, hb2.size⟩
  · exact ⟨by simpa using hI1.lt, (World.cell?_setCell_other _ _ _ _ (by intro e; cases e; exact absurd hsp (Nat.lt_irrefl _))).trans hI1.sgn, (World.cell?_setCell_other _ _ _ _ (by intro e; cases e)).trans hI1.abs, fun j => by simpa using hI1.free j⟩
  · intro hK
    obtain ⟨g, h1, h2, h3, h4⟩ := hW hK
    exact ⟨g, h1, h2, by have := hb1.size; simp; omega, (h4.below hb1 h3).aside (by omega)⟩
  · intro g hg hK
    obtain ⟨g', h1, h2, h3, h4⟩ := hW hK
    rw [hg] at h1
    cases h1
    exact h3
  · exact ⟨hge, by simpa using hlt, hbuf.own.setCell _ _, hbuf.le, hbuf.max, fun j hj => (World.cell?_setCell_other _ _ _ _ (by intro e; cases e; omega)).trans (hbuf.row j hj)⟩

theorem BitLen_any (p K c L n : Nat) (f : Nat → Nat) (neg : Bool) (ga : Option Addr) (w : World) (h : IsInt w p neg ga K c) (hW : Words (p + 1) w ga K (wd f n)) (hL : Len f n L) (hf : ∀ i, i < n → f i < 256) (hn : n ≤ 65536) (hK : K = (L + 7) / 8) :
    Calls Try.prog 23 #[.pointer (some ⟨p, 0, none⟩)] w (fun e w' => ∃ bl : Nat, e = .returned (.int .i64 (bl : Int)) ∧ bl ≤ 16777216 ∧ (bl + 7) / 8 = L ∧ w' = w) := by
  have hle := hL.le
  rcases Nat.eq_zero_or_pos L with rfl | hpos
  · obtain rfl : K = 0 := by omega
    exact (BitLen_nil p c neg ga w h).mono fun e w' ⟨h1, h2⟩ => ⟨0, h1, by omega, by omega, h2⟩
  · obtain ⟨g, rfl, h2, h3, h4⟩ := hW (by omega)
    obtain ⟨b1, b2, b3⟩ := hL.bits hf hpos
    have hK1 : (L - 1) / 8 = K - 1 := by omega
    rw [hK1] at b1 b2 b3
    have hne := hL.word_top hf hpos
    rw [hK1] at hne
    exact (BitLen_some p g K c (wd f n (K - 1)) neg w h (by omega) (by omega) (h4 (K - 1) (by omega)) (wd_lt hf _) hne).mono fun e w' ⟨h1, h2⟩ => ⟨_, h1, by omega, b3, h2⟩

theorem Fill_any (B p K c h o L cap n : Nat) (a : Option Addr) (f : Nat → Nat) (neg : Bool) (ga : Option Addr) (w : World) (hI : IsInt w p neg ga K c) (hW : Words (p + 1) w ga K (wd f n)) (hL : Len f n L) (hf : ∀ i, i < n → f i < 256) (hn : n ≤ 65536) (hK : K = (L + 7) / 8)
    (htop : ∀ g, ga = some ⟨g, 0, none⟩ → 0 < K → g ≠ h) (hph : p ≠ h) (hB : B ≤ h) (ha : 0 < L → a = some ⟨h, o, none⟩)
    (ht : ∀ j, j < L → ∃ v, w.cell? ⟨h, o + j, none⟩ = some v) (hfz : ∀ j, w.frozen? ⟨h, j, none⟩ = false) :
    Calls Try.prog 27 #[.pointer (some ⟨p, 0, none⟩), .slice a L cap] w (fun e w' => (∃ v, e = .returned v) ∧ Fill B h o L w w' (bt f n) L) := by
  have hle := hL.le
  rcases Nat.eq_zero_or_pos L with rfl | hpos
  · obtain rfl : K = 0 := by omega
    exact (Fill_nil p c cap neg ga a w hI).mono fun e w' ⟨h1, h2⟩ => ⟨h1, by subst h2; exact ⟨rfl, Below.refl _ _, fun _ _ => rfl, ht, hfz, fun _ => rfl, fun _ h => h, fun t h => absurd h (Nat.not_lt_zero _)⟩⟩
  · obtain ⟨g, rfl, h2, h3, h4⟩ := hW (by omega)
    rw [ha hpos]
    exact Fill_some B p g K c h o L cap n f neg w hI hL hf hpos (by omega) hK h4 (htop g rfl (by omega)) hph hB ht hfz

theorem wrap_add (m L : Nat) (h1 : m ≤ 1048576) (h2 : L ≤ 1048576) : wrap64 ((m : Int) + (L : Int)) = (m : Int) + (L : Int) := by unfold wrap64; omega
theorem wrap_add2 (m L : Nat) (h1 : m ≤ 1048576) (h2 : L ≤ 1048576) : IntKind.i64.wrap ((m : Int) + (L : Int)) = (m : Int) + (L : Int) := by
  rw [IntKind.wrap_i64]; omega

/-- BEHIND Grow. -/
structure Late (w w3 : World) (sb p h m L cap : Nat) (F : Nat → Nat) (neg : Bool) (ga : Option Addr) (K c : Nat) (W : Nat → Nat) : Prop where
  cell : w3.cell? ⟨sb, 0, none⟩ = some (.slice (some ⟨h, 0, none⟩) (m + L) cap)
  int : IsInt w3 p neg ga K c
  words : Words (p + 1) w3 ga K W
  top : ∀ g, ga = some ⟨g, 0, none⟩ → 0 < K → g < w.heap.size
  buf : Buf w3 w.heap.size h m cap F
  room : m + L ≤ cap
  bel : Below sb w w3

theorem Late.drew {w w3 : World} {sb p h m L cap : Nat} {F : Nat → Nat} {neg : Bool} {ga : Option Addr} {K c : Nat} {W : Nat → Nat} (H : Late w w3 sb p h m L cap F neg ga K c W) : Late w w3.drew sb p h m L cap F neg ga K c W :=
  ⟨H.cell, ⟨H.int.lt, H.int.sgn, H.int.abs, H.int.free⟩, H.words, H.top, H.buf.drew, H.room, H.bel.drew⟩
theorem wrap_one (m : Nat) (h1 : m ≤ 1048576) : IntKind.i64.wrap (m : Int) = (m : Int) := by rw [IntKind.wrap_i64]; omega

theorem late_of {w w2 w3 : World} {sb p h m L cap h3 cap3 : Nat} {F : Nat → Nat} {neg : Bool} {ga : Option Addr} {K c : Nat} {W : Nat → Nat} (hsp : sb < p) (hp : p < w.heap.size) (H : Mid w w2 sb p h m cap F neg ga K c W) (hbuf3 : Buf w3 w.heap.size h3 m cap3 F) (hr3 : m + L ≤ cap3) (hb3 : Below w2.drew.heap.size w2.drew w3) :
    Late w (w3.setCell ⟨sb, 0, none⟩ (.slice (some ⟨h3, 0, none⟩) (m + L) cap3)) sb p h3 m L cap3 F neg ga K c W := by
  have hs := H.size
  have hb3' : Below w2.heap.size w2 w3 := ⟨hb3.os, hb3.tape, hb3.output, hb3.size, hb3.block⟩
  have hsb : sb < w2.heap.size := by omega
  have hge := hbuf3.ge
  have hI := H.int.below hb3' H.int.lt
  refine ⟨World.cell?_setCell_same _ _ _ ((hb3'.cell (p := ⟨sb, 0, none⟩) hsb).trans H.cell), ?_, ?_, H.top, ?_, hr3, (H.bel.trans (hb3'.mono (Nat.le_of_lt hsb))).setCell (Nat.le_refl _) _⟩
  · exact ⟨by simpa using hI.lt, (World.cell?_setCell_other _ _ _ _ (by intro e; cases e; exact absurd hsp (Nat.lt_irrefl _))).trans hI.sgn, (World.cell?_setCell_other _ _ _ _ (by intro e; cases e)).trans hI.abs, fun j => by simpa using hI.free j⟩
  · intro hK
    obtain ⟨g, h1, h2, h3, h4⟩ := H.words hK
    exact ⟨g, h1, h2, by have := hb3'.size; simp; omega, (h4.below hb3' h3).aside (by omega)⟩
  · exact ⟨hge, by simpa using hbuf3.lt, hbuf3.own.setCell _ _, hbuf3.le, hbuf3.max, fun j hj => (World.cell?_setCell_other _ _ _ _ (by intro e; cases e; omega)).trans (hbuf3.row j hj)⟩

/-- AT THE END. -/
theorem into_of {w w3 w4 : World} {sb p h n x L cap nn : Nat} {f fb : Nat → Nat} {neg : Bool} {ga : Option Addr} {K c : Nat} {W : Nat → Nat} (hsp : sb < p) (hp : p < w.heap.size) (H : Late w w3 sb p h (n + vlen x) L cap (join n fb (vb x)) neg ga K c W)
    (hF : Fill w.heap.size h (n + vlen x) L w3 w4 (bt f nn) L) : IntoSaid sb w.heap.size (n + vlen x + L) (whole n fb x f nn L) w w4 := by
  have hge := H.buf.ge
  have hsb : sb < w.heap.size := by omega
  refine ⟨h, cap, (hF.keep ⟨sb, 0, none⟩ (fun e => by simp at e; omega)).trans H.cell, ⟨hge, by rw [hF.size]; exact H.buf.lt, hF.blk _ H.buf.own, H.room, H.buf.max, fun j hj => ?_⟩, H.bel.trans (hF.bel.mono (Nat.le_of_lt hsb))⟩
  unfold whole
  rw [join]
  split
  next h1 => exact (hF.keep ⟨h, j, none⟩ (fun _ => h1)).trans (H.buf.row j h1)
  next h1 =>
    have := hF.done (L - 1 - (j - (n + vlen x))) (by omega) (by omega)
    rw [show n + vlen x + (L - 1 - (L - 1 - (j - (n + vlen x)))) = j by omega] at this
    exact this

set_option maxRecDepth 100000 in
set_option maxHeartbeats 2000000 in
theorem int_any (sb p n nn K c L : Nat) (ao ga : Option Addr) (neg : Bool) (f fb : Nat → Nat) (w : World) (hsp : sb < p) (hI : IsInt w p (neg && decide (0 < K)) ga K c) (hW : Words (p + 1) w ga K (wd f nn)) (hc : w.cell? ⟨sb, 0, none⟩ = some (.slice ao n n)) (hfz : ∀ j, w.frozen? ⟨sb, j, none⟩ = false)
    (hnone : ao = none → n = 0) (hg : ∀ b, ao = some b → b = ⟨b.block, 0, none⟩ ∧ b.block < w.heap.size ∧ Row w b.block n fb) (hn : n ≤ 65536) (hL : Len f nn L) (hf : ∀ i, i < nn → f i < 256) (hnn : nn ≤ 65536) (hK : K = (L + 7) / 8) :
    Calls Try.prog 20 #[.pointer (some ⟨sb, 0, none⟩), .pointer (some ⟨p, 0, none⟩)] w (fun e w' => e = .returned (.tuple #[]) ∧ IntoSaid sb w.heap.size (n + vlen (hd neg L) + L) (whole n fb (hd neg L) f nn L) w w') := by
  have hp := hI.lt
  have hLn := hL.le
  have hKL : K ≤ 65536 := by omega
  have hdec : decide (0 < K) = decide (0 < L) := by
    by_cases h : 0 < L
    · rw [decide_eq_true h, decide_eq_true (by omega)]
    · rw [decide_eq_false h, decide_eq_false (by omega)]
  have hhd := hd_lt neg (show L ≤ 1048576 by omega)
  have hvl : vlen (hd neg L) ≤ 10 := Lib.uvarint_length64 (by omega)
  have hvp := vlen_pos (hd neg L)
  have HI := Hid.mk hI
  have HW := Hid.mk hW
  have HG := Hid.mk hg
  have HN := Hid.mk hnone
  have HL := Hid.mk hL
  have HF := Hid.mk hf
  have HK := Hid.mk hK
  have hsg := sgn_lt neg K
  have hhdv : hd neg L = 2 * L + (neg && decide (0 < K)).toNat := by rw [hdec]; rfl
  clear hI hW hg hnone hL hf hK hdec
  generalize hd neg L = x at *
  generalize hq : (neg && decide (0 < K)) = q at *
  clear hq
  go_enter Try.func20, Try.ntmps20
  go_wp2_with fail
  refine (BitLen_any p K c L nn f q ga w HI.out HW.out HL.out HF.out hnn HK.out).mono ?_
  rintro e w' ⟨bl, rfl, hbl, hblL, hw⟩
  obtain rfl := hw.symm
  clear hw
  have hdiv : ((bl : Int) + 7) / 8 = (L : Int) := by omega
  clear hblL
  go_wp2_with fail
  refine (Sign_any p K c q ga w HI.out (by omega)).mono ?_
  rintro e w' ⟨rfl, hw⟩
  obtain rfl := hw.symm
  clear hw
  go_upto_if 15 with fail
  go_cut [5] (fun v w' => v = .int .u64 (x : Int) ∧ w' = w)
  case first =>
    rcases q with _ | _
    · have h1 : ¬ (sgnOf false K < 0) := fun h => by have := hsg.1 h; cases this
      go_wp2
      go_meet
      case rel => exact ⟨int_val (by simp at hhdv; omega), rfl⟩
    · have h1 : (sgnOf true K < 0) := hsg.2 rfl
      have hor : bits .or .u64 ((L : Int) * 2) 1 = (L : Int) * 2 + 1 := bits_join .u64 64 (by decide) wraps_u64 1 ((L : Int) * 2) 1 (by omega) (by omega) (by omega) (by omega) (by omega) (by omega)
      go_wp2
      go_meet
      case rel => exact ⟨int_val (by simp at hhdv; omega), rfl⟩
  case rest =>
    obtain ⟨rfl, hw⟩ := hcut
    obtain rfl := hw.symm
    clear hw hsg hhdv
    go_wp2_with fail
    refine (uint_any sb n x ao fb (by omega) w (Nat.lt_trans hsp hp) hc hfz HN.out HG.out (by omega)).mono ?_
    rintro e w2 ⟨rfl, hU⟩
    obtain ⟨h, cap, hM⟩ := mid_of hsp HI.out HW.out hc hfz hU
    have c2 := hM.cell
    have z2 := hM.free
    have hs2 := hM.size
    have hge := hM.buf.ge
    have HM := Hid.mk hM
    have hsb2 : sb < w2.heap.size := by omega
    clear hc hfz HI hU hM HW HG
    generalize hm : n + vlen x = m at *
    have hm2 : m ≤ 65546 := by omega
    have hm1 : 1 ≤ m := by omega
    have HMM := Hid.mk hm
    clear hm
    have ha1 : (0 : Int) ≤ (m : Int) + (L : Int) := by omega
    have ha2 : ((m : Int) + (L : Int)).toNat = m + L := by omega
    have hA : L ≤ 1048576 := by omega
    have hB : m ≤ 1048576 := by omega
    have hw1 := wrap_add m L hB hA
    have hw2 := wrap_add2 m L hB hA
    go_upto_region 5 with fail
    go_cut [] (fun w' => ∃ h3 cap3, Late w w' sb p h3 m L cap3 (join n fb (vb x)) q ga K c (wd f nn))
    case first =>
      go_region_with
        (first | (go_at_call 26; refine (grow_any w.heap.size h m cap L (join n fb (vb x)) w2.drew HM.out.buf.drew hs2 hB hA).mono ?_; rintro e w3 ⟨h3, cap3, rfl, hbuf3, hr3, hb3⟩; have q0 := (hb3.cell (p := ⟨sb, 0, none⟩) hsb2).trans c2; have qz := fun j => (hb3.frozen (p := ⟨sb, j, none⟩) hsb2).trans (z2 j); have k2 : (m : Int) + (L : Int) ≤ (cap3 : Int) := Int.ofNat_le.2 hr3; have k4 : ¬ cap3 = 0 := Nat.ne_of_gt (Nat.lt_of_lt_of_le hm1 (Nat.le_trans (Nat.le_add_right _ _) hr3))))
      all_goals go_wp2
      all_goals go_meet
      all_goals exact ⟨h3, cap3, late_of hsp hp HM.out hbuf3 hr3 hb3⟩
    case rest =>
      obtain ⟨h3, cap3, hLt⟩ := hcut
      clear hw1 hw2 ha1 ha2 HM hge c2 z2 hs2 hsb2
      have HLt := Hid.mk hLt.drew
      have cL := hLt.cell
      have hroom := hLt.room
      have hge := hLt.buf.ge
      obtain ⟨t, ht⟩ : ∃ t, t = m + L := ⟨_, rfl⟩
      rw [← ht] at cL
      have ht1 : t - m = L := by omega
      have ht2 : (t : Int) - (L : Int) = (m : Int) := by omega
      have ht3 : (m : Int) ≤ (t : Int) := by omega
      have ht4 : ¬ m = 0 := by omega
      have hph : p ≠ h3 := by omega
      have hsh : sb ≠ h3 := by omega
      have htop : ∀ g, ga = some ⟨g, 0, none⟩ → 0 < K → g ≠ h3 := fun g h1 h2 => by have := hLt.top g h1 h2; omega
      have HTop := Hid.mk htop
      have hcell : ∀ j, j < L → ∃ v, wc.drew.cell? ⟨h3, m + j, none⟩ = some v := fun j hj => hLt.buf.own.cell (m + j) (by omega)
      have HCe := Hid.mk hcell
      have hfree := Hid.mk hLt.buf.own.free
      have HT := Hid.mk ht
      have hzz : cap3 = m → 0 < L → False := fun h1 h2 => by omega
      have HZZ := Hid.mk hzz
      have hw3 : wrap64 (m : Int) = (m : Int) := by unfold wrap64; omega
      have hw4 := wrap_one m hB
      clear htop hcell ht hLt hzz
      by_cases hcm : cap3 = m
      · go_wp2_with fail
        go_region_held3 (fun w' => w'.cell? ⟨sb, 0, none⟩ = some (.slice (some ⟨h3, 0, none⟩) t cap3)) (go_keep)
          (first | (go_at_call 27; refine (Fill_any w.heap.size p K c h3 m L _ nn _ f q ga wc.drew HLt.out.int HLt.out.words HL.out HF.out hnn HK.out HTop.out hph hge (fun h => (HZZ.out hcm h).elim) HCe.out hfree.out).mono ?_; rintro e w4 ⟨⟨v, rfl⟩, hFl⟩; have r0 := (hFl.keep ⟨sb, 0, none⟩ (fun e => absurd e hsh)).trans cL))
        have hmm := HMM.out
        subst hmm
        have hfin := into_of hsp hp HLt.out hFl
        clear HLt hFl r0 cL HCe hfree
        go_wp2
        go_end0
        exact ⟨rfl, hfin⟩
      · go_wp2_with fail
        go_region_held3 (fun w' => w'.cell? ⟨sb, 0, none⟩ = some (.slice (some ⟨h3, 0, none⟩) t cap3)) (go_keep)
          (first | (go_at_call 27; refine (Fill_any w.heap.size p K c h3 m L _ nn _ f q ga wc.drew HLt.out.int HLt.out.words HL.out HF.out hnn HK.out HTop.out hph hge (fun _ => rfl) HCe.out hfree.out).mono ?_; rintro e w4 ⟨⟨v, rfl⟩, hFl⟩; have r0 := (hFl.keep ⟨sb, 0, none⟩ (fun e => absurd e hsh)).trans cL))
        have hmm := HMM.out
        subst hmm
        have hfin := into_of hsp hp HLt.out hFl
        clear HLt hFl r0 cL HCe hfree
        go_wp2
        go_end0
        exact ⟨rfl, hfin⟩

end Go.Proofs.Qxb6604761a
