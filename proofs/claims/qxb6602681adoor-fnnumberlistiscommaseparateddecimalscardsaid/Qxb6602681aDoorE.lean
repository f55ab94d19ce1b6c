/-
  DERIVED. appendDecimal, sameText.
-/
import Derived.Test.Qxb6602681aDoorRows
import Derived.Lib.ItoaLen
import Derived.Lib.AppendIntMem
import Derived.WalkKit
import Derived.WalkSpells
import Derived.WalkLawsBesides
import Derived.RegionTactic
import Derived.BigQuiet
import Derived.Deep.DeepCutAuto
import Derived.Maps.AppendAt
namespace Go.Proofs.Qxb6602681aDoor.Dec
open Go.RowKit
set_option linter.unusedVariables false

theorem Hid.mk {p : Prop} (h : p) : Hid p := h
theorem int_val {k : IntKind} {a b : Int} (h : a = b) : Value.int k a = Value.int k b := by rw [h]
theorem info5 : (Tryd.prog.info? 5).map (fun i => (i.zero, i.size, i.bytes)) = some (some (.int .u8 0), 1, 1) := by kernel_rfl

/-- The bytes L lie in a row of the call's own. -/
def Row5 (w : World) (base : Nat) (v : Value) (L : List UInt8) : Prop := w.ownsRow base 5 1 v L.length (Lib.byteCells L)
theorem Row5.more {w : World} {base : Nat} {v : Value} {L : List UInt8} {b : UInt8} (h : w.ownsRow base 5 1 v (L.length + 1) (Lib.byteCells L ++ [.int .u8 (b.toNat : Int)])) : Row5 w base v (L ++ [b]) := by
  unfold Row5
  rw [Lib.byteCells_append, List.length_append]
  exact h
theorem Row5.more' {w : World} {base : Nat} {v : Value} {L : List UInt8} {b : UInt8} {c : Int} (h : w.ownsRow base 5 1 v (L.length + 1) (Lib.byteCells L ++ [.int .u8 c])) (hc : c = (b.toNat : Int)) : Row5 w base v (L ++ [b]) := by
  subst hc
  exact Row5.more h
theorem Row5.alloc {w : World} {base : Nat} {v : Value} {L : List UInt8} (h : Row5 w base v L) (o : Obj) : Row5 (w.alloc o) base v L := World.ownsRow.alloc h o
theorem Row5.grown {w w' : World} {base B : Nat} {v : Value} {L : List UInt8} (h : Row5 w base v L) (hg : w.grownBy w' v.ownBlock) (hB : B ≤ base) (hs : B ≤ w.heap.size) : Below B w w' :=
  (Below.refl _ _).grown hg hs (fun k hk => Nat.le_trans hB (World.ownsRow.lt h k hk).1)
theorem Row5.nil (w : World) (base : Nat) : Row5 w base (.slice none 0 0) [] := World.ownsRow_nil w base 5 1
theorem Row5.below {w w' : World} {base : Nat} {v : Value} {L : List UInt8} (h : Row5 w base v L) (hb : Below w.heap.size w w') : Row5 w' base v L := by
  refine ⟨h.1, ?_⟩
  rcases h.2 with hn | ⟨g, cap, cur, rfl, h1, h2, h3⟩
  · exact .inl hn
  · exact .inr ⟨g, cap, cur, rfl, h1, (hb.block g (Array.getElem?_eq_some_iff.1 h2).1).trans h2, h3⟩
/-- A row that is not empty. -/
theorem Row5.some {w : World} {base : Nat} {v : Value} {L : List UInt8} (h : Row5 w base v L) (hL : 0 < L.length) :
    ∃ g cap, v = .slice (some ⟨g, 0, none⟩) L.length cap ∧ base ≤ g ∧ g < w.heap.size ∧ ∀ j (hj : j < L.length), w.cell? ⟨g, j, none⟩ = .some (.int .u8 ((L[j]'hj).toNat : Int)) := by
  have hc := fun g => h.cells (g := g)
  rcases h.2 with ⟨_, h0⟩ | ⟨g, cap, cur, rfl, h1, h2, h3⟩
  · omega
  · refine ⟨g, cap, rfl, h1, (Array.getElem?_eq_some_iff.1 h2).1, fun j hj => ?_⟩
    have e := hc g rfl j (.int .u8 ((L[j]'hj).toNat : Int)) (by simp [Lib.byteCells, hj])
    rwa [Addr.add_lit, Nat.zero_add] at e

/-- The k low digits of u, the least first. -/
def low (u k : Nat) : List UInt8 := (List.range k).map fun j => Lib.dg u j
theorem low_length (u k : Nat) : (low u k).length = k := by simp [low]
theorem low_succ (u k : Nat) : low u (k + 1) = low u k ++ [Lib.dg u k] := by simp [low, List.range_succ]
theorem dg_nat (u k : Nat) : (Lib.dg u k).toNat = 48 + u / 10 ^ k % 10 := by
  unfold Lib.dg
  rw [UInt8.toNat_ofNat']
  omega
theorem nDigits_ge {u k : Nat} (h : u < 10 ^ k) (hk : 0 < k) : Lib.nDigits u ≤ k := by
  induction k generalizing u with
  | zero => omega
  | succ k ih =>
    by_cases h10 : u < 10
    · rw [Lib.nDigits_small h10]; omega
    · rw [Lib.nDigits_big h10]
      have hk0 : 0 < k := by
        rcases Nat.eq_zero_or_pos k with rfl | h
        · simp at h; omega
        · exact h
      have := ih (u := u / 10) (by rw [Nat.pow_succ] at h; omega) hk0
      omega

/-- LOOP 1's STATE. -/
structure Low (w : World) (u k : Nat) (t v : Value) (wr : World) : Prop where
  t : t = .int .i64 (-((u / 10 ^ k : Nat) : Int))
  le : k ≤ Lib.nDigits u
  row : Row5 wr w.heap.size v (low u k)
  nil : k = 0 → v = .slice none 0 0
  below : Below w.heap.size w wr

/-- u's digits, the least first, lie in block g. -/
structure Digs (w : World) (u g : Nat) : Prop where
  lt : g < w.heap.size
  cell : ∀ j, j < Lib.nDigits u → w.cell? ⟨g, j, none⟩ = some (.int .u8 ((Lib.dg u j).toNat : Int))
theorem Digs.of_row {w : World} {u k g base cap : Nat} (h : Row5 w base (.slice (some ⟨g, 0, none⟩) k cap) (low u k)) (hk : 0 < k) (hkD : k = Lib.nDigits u) : base ≤ g ∧ Digs w u g := by
  obtain ⟨g', cap', e, h1, h2, h3⟩ := Row5.some h (by rw [low_length]; exact hk)
  rw [low_length] at e
  cases e
  refine ⟨h1, h2, fun j hj => ?_⟩
  have e := h3 j (by rw [low_length]; omega)
  rw [e]
  simp [low]

/-- LOOP 2's STATE. -/
structure Two (w : World) (base u g : Nat) (L : List UInt8) (v : Value) (wr : World) : Prop where
  row : Row5 wr base v L
  below : Below base w wr
  apart : v.ownBlock ≠ some g
  digs : Digs wr u g
theorem Two.step {w wr w1 : World} {base u g : Nat} {L : List UInt8} {v v' : Value} {o : Obj} {c : Int} {b : UInt8} (h : Two w base u g L v wr) (hB : base ≤ w.heap.size)
    (hown : w1.ownsRow base 5 1 v' (L.length + 1) (Lib.byteCells L ++ [.int .u8 c])) (hgrow : (wr.alloc o).grownBy w1 v.ownBlock) (hat : v'.ownBlock = v.ownBlock ∨ v'.ownBlock = some (wr.alloc o).heap.size) (hc : c = (b.toNat : Int)) :
    Two w base u g (L ++ [b]) v' w1 := by
  have hs := h.below.size
  have hal : (wr.alloc o).heap.size = wr.heap.size + 1 := by simp
  have hlt := h.digs.lt
  refine ⟨Row5.more' hown hc, h.below.trans (((Below.refl _ _).alloc (by omega) _).trans ((h.row.alloc _).grown hgrow (Nat.le_refl _) (by omega))), ?_, by have := hgrow.size; omega, fun j hj => ?_⟩
  · rcases hat with e | e
    · rw [e]; exact h.apart
    · rw [e]; intro e; have := Option.some.inj e; omega
  · refine hgrow.cell (a := ⟨g, j, none⟩) ?_ (fun e => h.apart e.symm)
    rw [← h.digs.cell j hj]
    exact ((Below.refl wr.heap.size wr).alloc (Nat.le_refl _) o).cell (p := ⟨g, j, none⟩) hlt

theorem dec_take (u j : Nat) (hj : j < Lib.nDigits u) : (Lib.decDigits u).take (j + 1) = (Lib.decDigits u).take j ++ [Lib.dg u (Lib.nDigits u - 1 - j)] := by
  have hl : j < (Lib.decDigits u).length := by rw [Lib.decDigits_length]; exact hj
  rw [List.take_succ_eq_append_getElem hl]
  congr 2
  simp [Lib.decDigits_eq]

/-- The sign. -/
def sgn (x : Int) : List UInt8 := if x < 0 then [45] else []
theorem itoa_sgn (x : Int) : Lib.itoa x = sgn x ++ Lib.decDigits x.natAbs := by
  unfold Lib.itoa sgn
  split
  · rfl
  · rw [show x.toNat = x.natAbs by omega]; rfl
theorem sgn_len (x : Int) : (sgn x).length ≤ 1 := by unfold sgn; split <;> simp

set_option maxRecDepth 100000 in
set_option maxHeartbeats 2000000 in
theorem dec_any (base : Nat) (v : Value) (L : List UInt8) (x : Int) (w : World) (h : Row5 w base v L) (hB : base ≤ w.heap.size) (hL : L.length ≤ 1048576) (hx0 : -9223372036854775808 ≤ x) (hx1 : x ≤ 9223372036854775807) :
    Calls Tryd.prog 7 #[v, .int .i64 x] w (fun e w' => ∃ v', e = .returned v' ∧ Row5 w' base v' (L ++ Lib.itoa x) ∧ Below base w w') := by
  obtain ⟨i0, hi, hz0, hz1, hz2⟩ := info_parts info5
  obtain ⟨u, hu⟩ : ∃ u : Nat, u = x.natAbs := ⟨_, rfl⟩
  have hD : Lib.nDigits u ≤ 20 := Lib.nDigits_le20 u (by omega)
  have HU := Hid.mk hu
  have H := Hid.mk h
  clear h hu
  go_enter Tryd.func7, Tryd.ntmps7
  go_upto_if 11 with fail
  go_cut [5] (fun t w' => t = .int .i64 (-(u : Int)) ∧ w' = w)
  case first =>
    by_cases hp : 0 < x
    · go_wp2
      go_meet
      case rel => exact ⟨int_val (by have := HU.out; omega), rfl⟩
    · go_wp2
      go_meet
      case rel => exact ⟨int_val (by have := HU.out; omega), rfl⟩
  case rest =>
    obtain ⟨rfl, hw⟩ := hcut
    obtain rfl := hw.symm
    clear hw
    go_wp2_with fail
    go_loopw [5, 6] (fun t v wr => ∃ k, Low w u k t v wr) (fun t _ _ => (intOf t).natAbs)
    case atStart => exact ⟨0, by simp, Nat.zero_le _, Row5.nil _ _, fun _ => rfl, Below.refl _ _⟩
    case round =>
      obtain ⟨k, hlow⟩ := hrel
      obtain ⟨rfl, hkD, hrow, hnil, hbel⟩ := hlow
      have hq64 : u / 10 ^ k ≤ 9223372036854775808 := by
        have := Nat.div_le_self u (10 ^ k)
        have := HU.out
        omega
      have hqs : u / 10 ^ (k + 1) = u / 10 ^ k / 10 := by rw [Nat.pow_succ, Nat.div_div_eq_div_mul]
      have hdg := dg_nat u k
      have hlt : 0 < u / 10 ^ k → k + 1 ≤ Lib.nDigits u := fun h0 => by
        rcases Nat.lt_or_ge k (Lib.nDigits u) with h | h
        · exact h
        · exfalso
          have h1 := Lib.lt_pow_nDigits u
          have h2 : 10 ^ Lib.nDigits u ≤ 10 ^ k := Nat.pow_le_pow_right (by omega) h
          rw [Nat.div_eq_of_lt (by omega)] at h0
          omega
      generalize hqe : u / 10 ^ k = q at *
      have HZ := Hid.mk hqe
      clear hqe
      have HQ := Hid.mk hqs
      have HDG := Hid.mk hdg
      have HR := Hid.mk hrow
      clear hqs hdg hrow
      rcases Nat.eq_zero_or_pos q with rfl | hq
      · have hkz : k = 0 ∧ u = 0 ∨ 0 < k ∧ k = Lib.nDigits u := by
          rcases Nat.eq_zero_or_pos k with rfl | hk0
          · left
            have := HZ.out
            simp at this
            exact ⟨rfl, this⟩
          · right
            refine ⟨hk0, Nat.le_antisymm hkD (nDigits_ge ?_ hk0)⟩
            have h1 := HZ.out
            rcases Nat.lt_or_ge u (10 ^ k) with h | h
            · exact h
            · have := Nat.div_pos h (Nat.pow_pos (by omega)); omega
        obtain ⟨a6, c6, h6⟩ : ∃ a6 c6, u6 = .slice a6 k c6 := by
          rcases Nat.eq_zero_or_pos k with rfl | hk0
          · exact ⟨_, _, hnil rfl⟩
          · obtain ⟨g, cap, e, _⟩ := HR.out.some (by rw [low_length]; exact hk0)
            rw [low_length] at e
            exact ⟨_, _, e⟩
        obtain rfl := h6.symm
        have HKZ := Hid.mk hkz
        have HNil := Hid.mk hnil
        have HD := Hid.mk hD
        clear hlt hkD HQ HDG hkz hnil hq64 HZ h6
        rw [show (-((0 : Nat) : Int)) = 0 from rfl]
        go_upto_if 29 with fail
        go_cut [6] (fun v6 w' => ∃ g cap, v6 = .slice (some ⟨g, 0, none⟩) (Lib.nDigits u) cap ∧ w.heap.size ≤ g ∧ Digs w' u g ∧ Below w.heap.size w w')
        case first =>
          rcases HKZ.out with ⟨hk0, hu0⟩ | ⟨hk0, hkD⟩
          · obtain ⟨rfl, rfl, rfl⟩ : a6 = none ∧ k = 0 ∧ c6 = 0 := by have := HNil.out hk0; cases this; exact ⟨rfl, rfl, rfl⟩
            go_wp2_with (at_builtin; refine wpList_append_own_at _ rfl _ _ 25 rfl w.heap.size 5 i0 (.int .u8 0) 1 1 Tryd.underlying25 hi hz0 hz1 hz2 rfl (by decide) _ 0 [] rfl (World.ownsRow_nil _ _ _ _) ⟨wr.heap.size, 0, none⟩ 1 1 [Value.int .u8 48] rfl rfl (cell_one_new _ _ _) (by simp [Value.oneCell']) (by unfold maxLen; omega) (by omega) (Nat.le_trans hbel.size (by simp)) ?_; intro v' w1 hown hgrow hnl hat)
            have hr2 : Row5 w1 w.heap.size v' (low u 1) := by rw [hu0]; exact hown
            have hb2 : Below w.heap.size w w1 := hbel.trans (((Below.refl _ _).alloc hbel.size _).trans ((Row5.nil _ w.heap.size).grown hgrow (Nat.le_refl _) (Nat.le_trans hbel.size (by simp))))
            obtain ⟨g, cap, rfl, hd1, hd2⟩ : ∃ g cap, v' = .slice (some ⟨g, 0, none⟩) (Lib.nDigits u) cap ∧ w.heap.size ≤ g ∧ Digs w1 u g := by
              have h1 : 1 = Lib.nDigits u := by rw [hu0, Lib.nDigits_small (by omega)]
              obtain ⟨g, cap, e, _⟩ := hr2.some (by rw [low_length]; omega)
              rw [low_length] at e
              rw [e] at hr2
              obtain ⟨h3, h4⟩ := Digs.of_row hr2 (by omega) h1
              exact ⟨g, cap, by rw [e, h1], h3, h4⟩
            have HD2 := Hid.mk hd2
            have HB2 := Hid.mk hb2
            clear hown hgrow hnl hat hr2 hb2 hd2 hu0
            go_wp2
            go_meet
            case rel => exact ⟨_, _, rfl, hd1, HD2.out, HB2.out⟩
          · have hne : ((k : Int) == 0) = false := by simp; omega
            have HkD := Hid.mk hkD
            clear hkD
            go_wp2
            go_meet
            case rel =>
              obtain ⟨g, cap, e, _⟩ := HR.out.some (by rw [low_length]; exact hk0)
              rw [low_length] at e
              have hr := HR.out
              rw [e] at hr ⊢
              obtain ⟨h3, h4⟩ := Digs.of_row hr hk0 HkD.out
              exact ⟨g, cap, by rw [HkD.out], h3, h4, hbel⟩
        case rest =>
          obtain ⟨g, cap, rfl, hg, hdg, hbel2⟩ := hcut
          have hdl := hdg.lt
          have hT0 : Two w base u g L v wc := ⟨H.out.below hbel2, hbel2.mono hB, fun e => by have := (World.ownsRow.lt H.out _ e).2; omega, hdg⟩
          have HT0 := Hid.mk hT0
          clear hdg hT0 HKZ HNil HR hbel
          go_upto_if 34 with fail
          go_cut [0] (fun v0 w' => Two w base u g (L ++ sgn x) v0 w')
          case first =>
            by_cases hx : x < 0
            · go_wp2_with (at_builtin; refine wpList_append_own_at _ rfl _ _ 25 rfl base 5 i0 (.int .u8 0) 1 1 Tryd.underlying25 hi hz0 hz1 hz2 rfl (by decide) _ L.length (Lib.byteCells L) rfl (World.ownsRow.alloc HT0.out.row _) ⟨wc.heap.size, 0, none⟩ 1 1 [Value.int .u8 45] rfl rfl (cell_one_new _ _ _) (by simp [Value.oneCell']) (by unfold maxLen; omega) (by omega) (Nat.le_trans hB (Nat.le_trans hbel2.size (by simp))) ?_; intro v' w1 hown hgrow hnl hat)
              have hT1 := HT0.out.step (b := 45) hB hown hgrow hat rfl
              have HT1 := Hid.mk hT1
              clear hown hgrow hnl hat hT1
              go_wp2
              go_meet
              case rel => unfold sgn; rw [if_pos hx]; exact HT1.out
            · go_wp2
              go_meet
              case rel => unfold sgn; rw [if_neg (by omega), List.append_nil]; exact HT0.out
          case rest =>
            have HT1 := Hid.mk hcut
            have hsl := sgn_len x
            clear HT0 hcut hdl hbel2
            go_wp2_with fail
            go_loopw [0, 8] (fun v0 iv wr => ∃ j : Nat, j ≤ Lib.nDigits u ∧ iv = .int .i64 ((Lib.nDigits u : Int) - 1 - (j : Int)) ∧ Two w base u g (L ++ sgn x ++ (Lib.decDigits u).take j) v0 wr) (fun _ iv _ => (intOf iv + 1).toNat)
            case atStart => exact ⟨0, by omega, int_val (by omega), by simpa using HT1.out⟩
            case round =>
              obtain ⟨j, hj, rfl, hT⟩ := hrel
              have HT := Hid.mk hT
              clear hT HT1
              by_cases hlt : j < Lib.nDigits u
              · obtain ⟨p, hp⟩ : ∃ p : Nat, Lib.nDigits u = p + 1 + j := ⟨Lib.nDigits u - 1 - j, by omega⟩
                have hpe : (Lib.nDigits u : Int) - 1 - (j : Int) = (p : Int) := by omega
                rw [hpe]
                have htk := dec_take u j hlt
                rw [show Lib.nDigits u - 1 - j = p by omega] at htk
                have s0 := HT.out.digs.cell p (by omega)
                have hmin : (L ++ sgn x ++ (Lib.decDigits u).take j).length ≤ 1048600 := by
                  simp only [List.length_append, List.length_take]; omega
                have p0 : (0 : Int) ≤ (p : Int) := by omega
                have p1 : (p : Int) < (Lib.nDigits u : Int) := by omega
                generalize hM : L ++ sgn x ++ (Lib.decDigits u).take j = M at HT hmin
                have HTk := Hid.mk htk
                have HM := Hid.mk hM
                have HP := Hid.mk hp
                have hsz : base ≤ wr.heap.size := Nat.le_trans hB HT.out.below.size
                clear htk hM hpe hp
                go_wp2_with (at_builtin; refine wpList_append_own_at _ rfl _ _ 25 rfl base 5 i0 (.int .u8 0) 1 1 Tryd.underlying25 hi hz0 hz1 hz2 rfl (by decide) _ M.length (Lib.byteCells M) rfl (World.ownsRow.alloc HT.out.row _) ⟨wr.heap.size, 0, none⟩ 1 1 [Value.int .u8 ((Lib.dg u p).toNat : Int)] rfl rfl (cell_one_new _ _ _) (by simp [Value.oneCell']) (by unfold maxLen; omega) (by omega) (Nat.le_trans hsz (by simp)) ?_; intro v' w1 hown hgrow hnl hat)
                have hT1 := HT.out.step hB hown hgrow hat rfl
                have HT1 := Hid.mk hT1
                clear hown hgrow hnl hat hT1 HT s0
                go_wp2
                go_roundw
                case rel => exact ⟨j + 1, by omega, int_val (by have := HP.out; omega), by rw [HTk.out, ← List.append_assoc, HM.out]; exact HT1.out⟩
                case measure => simp [intOf] <;> omega
              · obtain rfl : j = Lib.nDigits u := by omega
                rw [show ((Lib.nDigits u : Int) - 1 - ((Lib.nDigits u : Nat) : Int)) = -1 by omega]
                go_wp2
                go_ret
                refine ⟨_, rfl, ?_, HT.out.below⟩
                have e := HT.out.row
                rw [List.take_of_length_le (by rw [Lib.decDigits_length]; omega), List.append_assoc, HU.out, ← itoa_sgn] at e
                exact e
      · have hk1 := hlt hq
        have hne : (-(q : Int) == 0) = false := by simp; omega
        go_wp2_with (at_builtin; refine wpList_append_own_at _ rfl _ _ 25 rfl w.heap.size 5 i0 (.int .u8 0) 1 1 Tryd.underlying25 hi hz0 hz1 hz2 rfl (by decide) _ (low u k).length (Lib.byteCells (low u k)) rfl (World.ownsRow.alloc HR.out _) ⟨wr.heap.size, 0, none⟩ 1 1 [Value.int .u8 (48 + (q : Int) % 10)] rfl rfl (cell_one_new _ _ _) (by simp [Value.oneCell']) (by rw [low_length]; unfold maxLen; omega) (by rw [low_length]; omega) (Nat.le_trans hbel.size (by simp)) ?_; intro v' w1 hown hgrow hnl hat)
        have hr2 := Row5.more' hown (show (48 + (q : Int) % 10) = ((Lib.dg u k).toNat : Int) by have := HDG.out; omega)
        rw [← low_succ] at hr2
        have hb2 : Below w.heap.size w w1 := hbel.trans (((Below.refl _ _).alloc hbel.size _).trans ((HR.out.alloc _).grown hgrow (Nat.le_refl _) (Nat.le_trans hbel.size (by simp))))
        have HR2 := Hid.mk hr2
        have HB2 := Hid.mk hb2
        clear hown hgrow hnl hat hr2 hb2 hnil HR hbel
        go_wp2
        go_roundw
        case rel => exact ⟨k + 1, int_val (by rw [HQ.out]; omega), hk1, HR2.out, fun h => by omega, HB2.out⟩
        case measure => simp [intOf] <;> omega

set_option maxRecDepth 100000 in
set_option maxHeartbeats 1000000 in
theorem same_any (base : Nat) (v : Value) (L : List UInt8) (w : World) (h : Row5 w base v L) (hL0 : 0 < L.length) (hL : L.length ≤ 1048576) :
    Calls Tryd.prog 8 #[.string ⟨L.toArray⟩, v] w (fun e w' => e = .returned (.bool true) ∧ Below w.heap.size w w') := by
  obtain ⟨g, cap, rfl, h1, h2, h3⟩ := h.some hL0
  have hsz : (⟨L.toArray⟩ : ByteArray).size = L.length := rfl
  have hat : ∀ j (hj : j < (⟨L.toArray⟩ : ByteArray).size), w.cell? ⟨g, j, none⟩ = some (.int .u8 (((⟨L.toArray⟩ : ByteArray)[j]'hj).toNat : Int)) := fun j hj => h3 j hj
  rw [← hsz] at hL0 hL ⊢
  generalize (⟨L.toArray⟩ : ByteArray) = s at *
  have HA := Hid.mk hat
  clear hat h3 hsz h
  go_enter Tryd.func8, Tryd.ntmps8
  go_wp2_with fail
  go_loopw [5] (fun iv wr => ∃ k : Nat, k ≤ s.size ∧ iv = .int .i64 (k : Int) ∧ Below w.heap.size w wr) (fun iv _ => s.size - (intOf iv).toNat)
  case atStart => exact ⟨0, Nat.zero_le _, rfl, Below.refl _ _⟩
  case round =>
    obtain ⟨k, hk, rfl, hbel⟩ := hrel
    by_cases hlt : k < s.size
    · have s0 := (hbel.cell (p := ⟨g, k, none⟩) h2).trans (HA.out k hlt)
      have k0 : (0 : Int) ≤ (k : Int) := by omega
      have k1 : (k : Int) < (s.size : Int) := by omega
      go_upto_region 6 with fail
      go_quiet (fail)
      clear s0
      have hb2 : Below w.heap.size w (wr.drewN nq) := below_drewN hbel _
      go_wp2
      go_roundw
      case rel => exact ⟨k + 1, by omega, by go_num, hb2⟩
      case measure => simp [intOf] <;> omega
    · obtain rfl : k = s.size := by omega
      go_wp2
      go_ret
      exact ⟨rfl, hbel⟩

end Go.Proofs.Qxb6602681aDoor.Dec
