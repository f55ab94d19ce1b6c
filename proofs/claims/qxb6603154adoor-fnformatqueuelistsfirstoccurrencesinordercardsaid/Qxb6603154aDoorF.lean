/-
  DERIVED. The law FnFormatQueueListsFirstOccurrencesInOrder: the walk.
-/
import Derived.Test.Qxb6603154aDoorE
import Derived.Maps.AppendAt
namespace Go.Proofs.Qxb6603154aDoor
open Go.RowKit
set_option linter.unusedVariables false

/-- The words l lie in a row of the call's own. -/
def WRow (w : World) (base : Nat) (v : Value) (l : List Nat) : Prop := w.ownsRow base 25 1 v l.length (l.map fun (x : Nat) => Value.int .u64 (x : Int))
theorem WRow.more {w : World} {base : Nat} {v : Value} {l : List Nat} {x : Nat} (h : w.ownsRow base 25 1 v (l.length + 1) ((l.map fun (x : Nat) => Value.int .u64 (x : Int)) ++ [.int .u64 (x : Int)])) : WRow w base v (l ++ [x]) := by
  unfold WRow
  rw [List.map_append, List.length_append]
  exact h
theorem WRow.nil (w : World) (base : Nat) : WRow w base (.slice none 0 0) [] := World.ownsRow_nil w base 25 1
theorem WRow.alloc {w : World} {base : Nat} {v : Value} {l : List Nat} (h : WRow w base v l) (o : Obj) : WRow (w.alloc o) base v l := World.ownsRow.alloc h o
theorem WRow.grown {w w' : World} {base B : Nat} {v : Value} {l : List Nat} (h : WRow w base v l) (hg : w.grownBy w' v.ownBlock) (hB : B ≤ base) (hs : B ≤ w.heap.size) : Below B w w' :=
  (Below.refl _ _).grown hg hs (fun k hk => Nat.le_trans hB (World.ownsRow.lt h k hk).1)
theorem WRow.shape {w : World} {base : Nat} {v : Value} {l : List Nat} (h : WRow w base v l) : ∃ a c, v = .slice a l.length c := by
  rcases h.2 with ⟨rfl, h0⟩ | ⟨g, cap, cur, rfl, h1, h2, h3⟩
  · exact ⟨none, 0, by rw [h0]⟩
  · exact ⟨_, _, rfl⟩
/-- A row that is not empty. -/
theorem WRow.cells {w : World} {base : Nat} {a : Option Addr} {n c : Nat} {l : List Nat} (h : WRow w base (.slice a n c) l) (hL : 0 < l.length) :
    ∃ g, a = some ⟨g, 0, none⟩ ∧ g < w.heap.size ∧ ∀ j (hj : j < l.length), w.cell? ⟨g, j, none⟩ = .some (.int .u64 ((l[j]'hj : Nat) : Int)) := by
  have hc := fun g => World.ownsRow.cells h (g := g)
  rcases h.2 with ⟨_, h0⟩ | ⟨g, cap, cur, e, h1, h2, h3⟩
  · omega
  · cases e
    refine ⟨g, rfl, (Array.getElem?_eq_some_iff.1 h2).1, fun j hj => ?_⟩
    have e := hc g rfl j (.int .u64 ((l[j]'hj : Nat) : Int)) (by simp [hj])
    rwa [Addr.add_lit, Nat.zero_add] at e

set_option maxRecDepth 100000 in
set_option maxHeartbeats 4000000 in
theorem law6 (a : Option Addr) (n cap : Nat) (V : Nat → Nat) (w : World) (h : Came w a n cap V) (hT : Tab w) :
    Calls Tryd.prog 6 #[.slice a n cap] w (fun e w' => e = .returned (.bool true) ∧ Below w.heap.size w w') := by
  obtain ⟨i0, hi, hz0, hz1, hz2⟩ := info_parts info25
  have m0 : n ≤ maxLen := Nat.le_trans h.le h.max
  have h0s := hT.size
  have HL := Hid.mk h.lim
  have H := Hid.mk h
  have HT := Hid.mk hT
  clear h hT
  go_enter Tryd.func6, Tryd.ntmps6
  go_wp2_with fail
  refine (bytes13 a n cap w m0).mono ?_
  rintro e w' ⟨⟨r, rfl⟩, hw⟩
  obtain rfl := hw.symm
  clear hw
  unfold maxLen at m0
  rcases r with _ | _
  · go_wp2
    go_ret
    exact ⟨rfl, Below.refl _ _⟩
  by_cases hn : 131072 < n
  · have hnI : (131072 : Int) < (n : Int) := by omega
    go_wp2
    go_ret
    exact ⟨rfl, Below.refl _ _⟩
  have hnI : ¬ (131072 : Int) < (n : Int) := by omega
  have hn2 : n ≤ 131072 := by omega
  go_wp2_with fail
  refine (clone_any a n cap V w H.out hn2).mono ?_
  rintro e w1 ⟨a1, c1, rfl, hN1, hb1⟩
  have HN1 := Hid.mk hN1
  clear hN1 H
  go_wp2_with fail
  refine (zzqueue_any a1 n c1 V w1 HN1.out hn2 HL.out (HT.out.below hb1 h0s)).mono ?_
  rintro e w2 ⟨rfl, hb2⟩
  have HN2 := Hid.mk (HN1.out.below hb2)
  have hbw : Below w.heap.size w w2 := hb1.trans (hb2.mono hb1.size)
  have HBW := Hid.mk hbw
  have hsw := hbw.size
  clear HN1 hb1 hb2 hbw
  obtain ⟨l, hl⟩ : ∃ l, l = firsts V n := ⟨_, rfl⟩
  have hll : l.length ≤ n := by rw [hl]; exact firsts_length V n
  have hlt : ∀ x ∈ l, x < 18446744073709551616 := by rw [hl]; exact firsts_lt V n HL.out n (Nat.le_refl _)
  have hnd : l.Nodup := by rw [hl]; exact firsts_nodup V n
  rw [← hl]
  have hwd := word_at l
  have hle := txt_length l hlt
  have hall := at0_all l
  have hpos := txt_pos l
  have hE : l = [] → (⟨(txt l).toArray⟩ : ByteArray) = ⟨#[]⟩ := fun e => by rw [e, txt_nil]
  have hE2 : l ≠ [] → (⟨(txt l).toArray⟩ : ByteArray).toList.isEmpty = false := fun e => by
    have := hpos e
    rw [ByteArray.toList_mk]
    cases hq : txt l with
    | nil => rw [hq] at this; cases this
    | cons _ _ => rfl
  have hss : (⟨(txt l).toArray⟩ : ByteArray).size = (txt l).length := rfl
  rw [← hss] at hle hall hpos
  generalize (⟨(txt l).toArray⟩ : ByteArray) = s at *
  have HLl := Hid.mk hl
  have HLt := Hid.mk hlt
  have HND := Hid.mk hnd
  have HWd := Hid.mk hwd
  have HAll := Hid.mk hall
  clear hl hlt hnd hwd hall hss HT
  go_upto_if 28 with fail
  go_cut [4] (fun v w' => WRow w' w2.heap.size v l ∧ Below w2.heap.size w2 w')
  case first =>
    by_cases hnil : l = []
    · have hse : s.toList.isEmpty = true := by rw [hE hnil, ByteArray.toList_eq]; rfl
      rw [hse, Bool.not_true]
      clear hE2 hpos hE
      go_wp2
      go_meet
      case rel => rw [hnil]; exact ⟨WRow.nil _ _, Below.refl _ _⟩
    · have hse := hE2 hnil
      have hsp := hpos hnil
      have ha := HAll.out hnil
      have hl0 : 0 < l.length := by cases l with | nil => exact absurd rfl hnil | cons _ _ => simp
      have HA := Hid.mk ha
      have h01 : 0 < at0 l 1 := by rw [at0_succ l 0 hl0]; omega
      have hz := at0_zero l
      have HZ := Hid.mk hz
      rw [hse, Bool.not_false]
      clear hE hE2 hpos ha hz hse
      go_wp2_with fail
      go_loopw [4, 5, 6] (fun wv sv iv wr => ∃ k i : Nat, k ≤ l.length ∧ sv = .int .i64 (at0 l k : Int) ∧ iv = .int .i64 (i : Int) ∧ at0 l k ≤ i ∧ (k < l.length ∧ i < at0 l (k + 1) ∨ k = l.length ∧ i = s.size + 1) ∧ WRow wr w2.heap.size wv (l.take k) ∧ Below w2.heap.size w2 wr) (fun _ _ iv _ => s.size + 1 - (intOf iv).toNat)
      case atStart => exact ⟨0, 0, by omega, int_val (by rw [HZ.out]; rfl), rfl, by rw [HZ.out]; omega, .inl ⟨hl0, h01⟩, WRow.nil _ _, Below.refl _ _⟩
      case round =>
        obtain ⟨k, i, hk, rfl, rfl, hki, hcase, hrow, hbel⟩ := hrel
        rcases hcase with ⟨hkl, hi1⟩ | ⟨hkl, hi1⟩
        · have hsu := at0_succ l k hkl
          have hal := at0_le l k hkl
          have hw := HWd.out k hkl
          have hx := HLt.out (l[k]'hkl) (List.getElem_mem _)
          have htk := List.take_succ_eq_append_getElem hkl
          have hcn := canon_dec (l[k]'hkl) hx
          have hlk : (l.take k).length = k := by rw [List.length_take]; omega
          generalize l[k]'hkl = x at hsu hw hx htk hcn
          obtain ⟨aw, cw, hv4⟩ := hrow.shape
          rw [hlk] at hv4
          obtain rfl := hv4.symm
          have ha1 := HA.out
          obtain ⟨A, hA0⟩ : ∃ A, A = at0 l k := ⟨_, rfl⟩
          obtain ⟨A1, hA1⟩ : ∃ A1, A1 = at0 l (k + 1) := ⟨_, rfl⟩
          rw [← hA0] at hsu hw hki ⊢
          rw [← hA1] at hsu hi1 hal
          rw [ha1] at hal
          have HA0 := Hid.mk hA0
          have HA1 := Hid.mk hA1
          have HR := Hid.mk hrow
          have HTk := Hid.mk htk
          clear hA0 hA1 ha1 hrow htk hv4
          generalize (Lib.decDigits x).length = D at hsu hw
          by_cases hin : i < A + D
          · have hls : i < s.size := by omega
            have hc := hw.dig i hls hki hin
            generalize hcc : (s[i]'hls).toNat = c at hc
            have n1 : ((i : Int) == (s.size : Int)) = false := by rw [beq_eq_false_iff_ne]; omega
            have n2 : ((c : Int) == 32) = false := by rw [beq_eq_false_iff_ne]; omega
            have n3 : (i : Int) ≤ (s.size : Int) := by omega
            have n4 : (0 : Int) ≤ (i : Int) := by omega
            have n5 : (i : Int) < (s.size : Int) := by omega
            clear hw hcn
            go_wp2
            go_roundw
            case rel => exact ⟨k, i + 1, by omega, int_val (by rw [HA0.out]), by go_num, by rw [← HA0.out]; omega, .inl ⟨hkl, by rw [← HA1.out]; omega⟩, HR.out, hbel⟩
            case measure => simp [intOf] <;> omega
          · have hie : i = A + D := by omega
            have hst := hw.stop
            have hext := hw.ext
            rw [← hie] at hst hext
            have n3 : (i : Int) ≤ (s.size : Int) := by omega
            have n4 : (0 : Int) ≤ (i : Int) := by omega
            have n6 : (0 : Int) ≤ (A : Int) := by omega
            have n7 : (A : Int) ≤ (i : Int) := by omega
            have HC := Hid.mk hcn
            have HEX := Hid.mk hext
            have HIE := Hid.mk hie
            clear hw hcn hext hie
            go_upto_region 13 with fail
            go_cut [44] (fun b w' => b = .bool true ∧ w' = wr)
            case first =>
              by_cases hls : i < s.size
              · have hc := hst hls
                have n1 : ((i : Int) == (s.size : Int)) = false := by rw [beq_eq_false_iff_ne]; omega
                have n5 : (i : Int) < (s.size : Int) := by omega
                clear hst
                go_wp2
                go_meet
                case rel => exact ⟨rfl, rfl⟩
              · have n1 : (i : Int) = (s.size : Int) := by omega
                clear hst
                go_wp2
                go_meet
                case rel => exact ⟨rfl, rfl⟩
            case rest =>
              obtain ⟨rfl, hw'⟩ := hcut
              obtain rfl := hw'.symm
              clear hw' hst
              have hext := HEX.out
              go_wp2_with fail
              refine (canon_any _ x wr HC.out).mono ?_
              rintro e w' ⟨rfl, hw'⟩
              obtain rfl := hw'.symm
              clear hw' hext
              have hkn : ¬ ((n : Int) ≤ (k : Int)) := by omega
              have hrw : w2.heap.size ≤ wr.heap.size := hbel.size
              go_wp2_with (at_builtin; refine wpList_append_own_at _ rfl _ _ 32 rfl w2.heap.size 25 i0 (.int .u64 0) 1 8 Tryd.underlying32 hi hz0 hz1 hz2 rfl (by decide) _ (l.take k).length ((l.take k).map fun (x : Nat) => Value.int .u64 (x : Int)) rfl (World.ownsRow.alloc HR.out _) ⟨wr.heap.size, 0, none⟩ 1 1 [Value.int .u64 (x : Int)] rfl rfl (cell_one_new _ _ _) (by simp [Value.oneCell']) (by rw [hlk]; unfold maxLen; omega) (by rw [hlk]; omega) (Nat.le_trans hrw (by simp)) ?_; intro v' w3 hown hgrow hnl hat)
              have hr2 := WRow.more hown
              rw [← HTk.out] at hr2
              have hb2 : Below w2.heap.size w2 w3 := hbel.trans (((Below.refl _ _).alloc hbel.size _).trans ((HR.out.alloc _).grown hgrow (Nat.le_refl _) (Nat.le_trans hbel.size (by simp))))
              have HR2 := Hid.mk hr2
              have HB2 := Hid.mk hb2
              clear hown hgrow hnl hat hr2 hb2 HR hbel HEX
              go_wp2
              go_roundw
              case rel =>
                have e1 := HA1.out
                have e2 := HIE.out
                refine ⟨k + 1, i + 1, by omega, int_val (by omega), by go_num, by omega, ?_, HR2.out, HB2.out⟩
                by_cases hlast : k + 1 < l.length
                · left
                  refine ⟨hlast, ?_⟩
                  have := at0_succ l (k + 1) hlast
                  omega
                · right
                  have e3 := HA.out
                  rw [show l.length = k + 1 by omega] at e3 ⊢
                  exact ⟨rfl, by omega⟩
              case measure => simp [intOf] <;> omega
        · have hnle : ¬ ((i : Int) ≤ (s.size : Int)) := by omega
          obtain rfl := hkl
          rw [List.take_length] at hrow
          have HR := Hid.mk hrow
          clear hrow hi1
          go_wp2
          go_meet
          case rel => exact ⟨HR.out, hbel⟩
  case rest =>
    obtain ⟨hrow, hb3⟩ := hcut
    obtain ⟨aw, cw, hv4⟩ := hrow.shape
    obtain rfl := hv4.symm
    have hmk := make38 l.length
    have hN3 := (HN2.out).below hb3
    have hbw3 : Below w.heap.size w wc := HBW.out.trans (hb3.mono hsw)
    have HR := Hid.mk hrow
    have HN3 := Hid.mk hN3
    have HB3 := Hid.mk hbw3
    have hsw3 : w.heap.size ≤ wc.heap.size := hbw3.size
    clear hrow hN3 hbw3 hb3 hv4 HWd HAll HN2 HBW hE hE2 hpos hle
    go_wp2_with fail
    clear hmk
    go_loopw [10] (fun jv wr => ∃ j : Nat, j ≤ l.length ∧ jv = .int .i64 (j : Int) ∧ PosM wr wc.heap.size j (l.take j) ∧ Below wc.heap.size wc wr) (fun jv _ => l.length - (intOf jv).toNat)
    case atStart => exact ⟨0, Nat.zero_le _, rfl, PosM.made wc, (Below.refl _ _).alloc (Nat.le_refl _) _⟩
    case round =>
      obtain ⟨j, hj, rfl, hP, hbel⟩ := hrel
      by_cases hlt : j < l.length
      · obtain ⟨g, rfl, hg, hcell⟩ := HR.out.cells (by omega)
        have s0 := (hbel.cell (p := ⟨g, j, none⟩) hg).trans (hcell j hlt)
        have hx := HLt.out (l[j]'hlt) (List.getElem_mem _)
        have hnot := nodup_take HND.out j hlt
        have htk := List.take_succ_eq_append_getElem hlt
        have hlk : (l.take j).length = j := by rw [List.length_take]; omega
        generalize l[j]'hlt = x at s0 hx hnot htk
        have hk1 := hP.look hx
        rw [if_neg hnot, decide_eq_false hnot] at hk1
        obtain ⟨w3, hrun, hP3, hg3⟩ := hP.put hx (by unfold maxLen; omega) hnot (by omega)
        rw [hlk] at hrun
        rw [← htk] at hP3
        have hb3 : Below wc.heap.size wc w3 := hbel.grown hg3 hbel.size (fun k hk => by cases hk; exact Nat.le_refl _)
        have HP3 := Hid.mk hP3
        have j0 : (0 : Int) ≤ (j : Int) := by omega
        have j1 : (j : Int) < (l.length : Int) := by omega
        clear hP hP3 hg3 hcell hnot htk hlk hbel
        go_wp2
        go_roundw
        case rel => exact ⟨j + 1, by omega, by go_num, HP3.out, hb3⟩
        case measure => simp [intOf] <;> omega
      · obtain rfl : j = l.length := by omega
        rw [List.take_length] at hP
        have HP := Hid.mk hP
        have hbw4 : Below w.heap.size w wr := HB3.out.trans (hbel.mono hsw3)
        have HB4 := Hid.mk hbw4
        have HN4 := Hid.mk (HN3.out.below hbel)
        clear hP hbel hbw4 HR HN3 HB3
        go_wp2_with fail
        go_loop [13, 14] (fun nv iv => ∃ i : Nat, i ≤ n ∧ iv = .int .i64 (i : Int) ∧ nv = .int .i64 ((firsts V i).length : Int)) (fun _ iv => n - (intOf iv).toNat)
        case atStart => exact ⟨0, Nat.zero_le _, rfl, rfl⟩
        case round =>
          obtain ⟨i, hi', rfl, rfl⟩ := hrel
          by_cases hin : i < n
          · rcases HN4.out with hI | ⟨b, off, rfl, hb, hcell⟩
            · exfalso; omega
            have s0 := hcell i hin
            have hx := HL.out i hin
            have hk1 := HP.out.look hx
            have hmem : V i ∈ l := by rw [HLl.out]; exact firsts_mem V n i hin
            rw [if_pos hmem, decide_eq_true hmem] at hk1
            have i1 : (0 : Int) ≤ (i : Int) := by omega
            have i2 : (i : Int) < (n : Int) := by omega
            have hfl := firsts_length V i
            by_cases hm : V i ∈ firsts V i
            · have hid := idx_old V n i hin hm
              rw [← HLl.out] at hid
              have hfo := firsts_old hm
              generalize hq : l.idxOf (V i) = q at hk1 hid
              generalize hp : (firsts V i).length = p at *
              have HFO : Hid ((firsts V (i + 1)).length = p) := by rw [hfo]; exact hp
              have n1 : ((q : Int) == (p : Int)) = false := by rw [beq_eq_false_iff_ne]; omega
              have n2 : ¬ ((p : Int) < (q : Int)) := by omega
              clear hm hfo hq hp hmem hcell
              go_wp2
              go_round
              case rel => exact ⟨i + 1, by omega, by go_num, int_val (by rw [HFO.out])⟩
              case measure => simp [intOf] <;> omega
            · have hid := idx_new V n i hin hm
              rw [← HLl.out] at hid
              rw [hid] at hk1
              have hfo := firsts_new hm
              generalize hp : (firsts V i).length = p at *
              have HFO : Hid ((firsts V (i + 1)).length = p + 1) := by rw [hfo, List.length_append, hp]; rfl
              clear hm hfo hp hmem hcell hid
              go_wp2
              go_round
              case rel => exact ⟨i + 1, by omega, by go_num, int_val (by rw [HFO.out]; omega)⟩
              case measure => simp [intOf] <;> omega
          · obtain rfl : i = n := by omega
            rw [← HLl.out]
            clear hin
            go_wp2
            go_ret
            exact ⟨rfl, HB4.out⟩

end Go.Proofs.Qxb6603154aDoor
