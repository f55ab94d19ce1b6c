/-
  DERIVED. formatQueue: each number once, in the order of first occurrence, blanks between.
-/
import Derived.Test.Qxb6603154aDoorB
import Derived.Lib.Join
namespace Go.Proofs.Qxb6603154aDoor
open Go.RowKit Go.Maps
set_option linter.unusedVariables false

/-- WHAT IS KNOWN OF A SLICE OF uint64s: if it has an element, the numbers V 0, V 1, .. lie at its address. -/
def Nums (w : World) (a : Option Addr) (len : Nat) (V : Nat → Nat) : Prop :=
  len < 1 ∨ ∃ b off, a = some ⟨b, off, none⟩ ∧ b < w.heap.size ∧ ∀ i, i < len → w.cell? ⟨b, off + i, none⟩ = some (.int .u64 (V i : Int))
theorem Nums.below {w w' : World} {a : Option Addr} {len : Nat} {V : Nat → Nat} (h : Nums w a len V) (hb : Below w.heap.size w w') : Nums w' a len V := by
  rcases h with h | ⟨b, off, h1, h2, h3⟩
  · exact .inl h
  · exact .inr ⟨b, off, h1, Nat.lt_of_lt_of_le h2 hb.size, fun i hi => (hb.cell (p := ⟨b, off + i, none⟩) h2).trans (h3 i hi)⟩

/-- The numbers, each once, in the order of first occurrence. -/
def firsts (V : Nat → Nat) : Nat → List Nat
  | 0 => []
  | k + 1 => if V k ∈ firsts V k then firsts V k else firsts V k ++ [V k]
theorem firsts_length (V : Nat → Nat) : ∀ k, (firsts V k).length ≤ k
  | 0 => Nat.le_refl _
  | k + 1 => by
    have := firsts_length V k
    unfold firsts
    split
    · omega
    · simp; omega
theorem firsts_lt (V : Nat → Nat) (n : Nat) (hV : ∀ i, i < n → V i < 18446744073709551616) : ∀ k, k ≤ n → ∀ x ∈ firsts V k, x < 18446744073709551616
  | 0, _, x, hx => by cases hx
  | k + 1, hk, x, hx => by
    unfold firsts at hx
    split at hx
    · exact firsts_lt V n hV k (by omega) x hx
    · rcases List.mem_append.1 hx with h | h
      · exact firsts_lt V n hV k (by omega) x h
      · rw [List.mem_singleton.1 h]; exact hV k (by omega)

/-- THE TEXT. -/
def txt (l : List Nat) : List UInt8 := Lib.join (l.map Lib.decDigits) [32]
/-- The blank ahead of a number. -/
def blank (l : List Nat) : List UInt8 := if l = [] then [] else [32]
theorem txt_snoc (l : List Nat) (x : Nat) : txt (l ++ [x]) = txt l ++ blank l ++ Lib.decDigits x := by
  unfold txt blank
  cases l with
  | nil => simp [Lib.join_nil, Lib.join_one]
  | cons y r =>
    rw [if_neg (by simp), List.map_append]
    simp only [List.map_cons, List.cons_append, Lib.join_cons, Lib.joinTail, List.map_append, List.map_nil, List.flatten_append, List.flatten_cons, List.flatten_nil, List.append_assoc, List.append_nil]
theorem txt_nil : txt [] = [] := by simp [txt, Lib.join_nil]
theorem dec_pos (x : Nat) : 0 < (Lib.decDigits x).length := by rw [Lib.decDigits_length]; exact Lib.nDigits_pos x
theorem snoc_cases (l : List Nat) : l = [] ∨ ∃ r x, l = r ++ [x] := by
  rcases List.eq_nil_or_concat l with h | ⟨r, x, h⟩
  · exact .inl h
  · exact .inr ⟨r, x, by rw [h]; simp⟩
theorem txt_pos (l : List Nat) (h : l ≠ []) : 0 < (txt l).length := by
  rcases snoc_cases l with h' | ⟨r, x, rfl⟩
  · exact absurd h' h
  · rw [txt_snoc]
    have := dec_pos x
    simp only [List.length_append]
    omega
theorem txt_length (l : List Nat) (h : ∀ x ∈ l, x < 18446744073709551616) : (txt l).length ≤ 21 * l.length := by
  generalize hn : l.length = n
  induction n generalizing l with
  | zero => rw [List.eq_nil_of_length_eq_zero hn, txt_nil]; simp
  | succ n ih =>
    rcases snoc_cases l with h' | ⟨r, x, rfl⟩
    · rw [h'] at hn; cases hn
    · have h1 := ih r (fun y hy => h y (List.mem_append_left _ hy)) (by simpa using hn)
      have h2 : (Lib.decDigits x).length ≤ 20 := by rw [Lib.decDigits_length]; exact Lib.nDigits_le20 x (h x (by simp))
      have h3 : (blank r).length ≤ 1 := by unfold blank; split <;> simp
      rw [txt_snoc, List.length_append, List.length_append]
      omega

/-! ### The builder beside the map -/
abbrev Bld (B b : Nat) (l : List UInt8) (w : World) : Prop := Lib.IsBuilderF 45 5 B b (Lib.byteCells l) w
theorem atF_of {B b : Nat} {p : Value} {bs : List Value} {w w' : World} (h : Lib.BuilderAtF 45 5 B b p bs w) (hb : ∀ k o, w.heap[k]? = some o → (k = b ∨ ∃ c fz, o = .cells c 5 fz) → w'.heap[k]? = some o) : Lib.BuilderAtF 45 5 B b p bs w' := by
  obtain ⟨h1, v, h2, h3, h4⟩ := h
  refine ⟨h1, v, hb b _ h2 (.inl rfl), ⟨h3.1, ?_⟩, h4⟩
  rcases h3.2 with h5 | ⟨g, cap, cur, fz, rfl, h6, h7, h8⟩
  · exact .inl h5
  · exact .inr ⟨g, cap, cur, fz, rfl, h6, hb g _ h7 (.inr ⟨cur, fz, rfl⟩), h8⟩
theorem Bld.of {B b : Nat} {l : List UInt8} {w w' : World} (h : Bld B b l w) (hb : ∀ k o, w.heap[k]? = some o → (k = b ∨ ∃ c fz, o = .cells c 5 fz) → w'.heap[k]? = some o) : Bld B b l w' := h.elim (fun x => .inl (atF_of x hb)) (fun x => .inr (atF_of x hb))
theorem Bld.below {B b : Nat} {l : List UInt8} {w w' : World} (h : Bld B b l w) (hb : Below w.heap.size w w') : Bld B b l w' :=
  Bld.of h fun k o hk _ => (hb.block k (Array.getElem?_eq_some_iff.1 hk).1).trans hk
/-- The map is written: the builder stands. -/
theorem Bld.map {B b m : Nat} {l : List UInt8} {w w' : World} (h : Bld B b l w) (hm : ∃ es c, w.heap[m]? = some (.map es c)) (hne : b ≠ m) (hg : w.grownBy w' (some m)) : Bld B b l w' :=
  Bld.of h fun k o hk hw => by
    rw [hg.block k (Array.getElem?_eq_some_iff.1 hk).1 ?_]
    · exact hk
    · intro e
      cases e
      obtain ⟨es, c, hm⟩ := hm
      rw [hm] at hk
      rcases hw with rfl | ⟨c', fz, rfl⟩
      · exact hne rfl
      · cases hk
theorem SeenM.others {w w' : World} {m n b : Nat} {S : List Nat} (h : SeenM w m n S) (ho : Lib.OthersKept 5 (some b) w w') (hne : m ≠ b) : SeenM w' m n S := by
  obtain ⟨es, c, hm⟩ := h.obj
  refine h.same ?_
  rw [hm, ho m _ hm (by simpa using hne) (by intro c fz e; cases e)]
theorem SeenM.below {w w' : World} {m n : Nat} {S : List Nat} (h : SeenM w m n S) (hb : Below w.heap.size w w') : SeenM w' m n S := by
  obtain ⟨es, c, hm⟩ := h.obj
  exact h.same (hb.block m (Array.getElem?_eq_some_iff.1 hm).1)
theorem SeenM.mono {w : World} {m n n' : Nat} {S : List Nat} (h : SeenM w m n S) (hn : n ≤ n') : SeenM w m n' S := by
  obtain ⟨D, h1, h2⟩ := h
  exact ⟨D, h1.mono hn, h2⟩
theorem SeenM.lt {w : World} {m n : Nat} {S : List Nat} (h : SeenM w m n S) : m < w.heap.size := by
  obtain ⟨es, c, hm⟩ := h.obj
  exact (Array.getElem?_eq_some_iff.1 hm).1

/-- THE LOOP's STATE. -/
structure Q (w : World) (V : Nat → Nat) (k : Nat) (wr : World) : Prop where
  bld : Bld w.heap.size w.heap.size (txt (firsts V k)) wr
  seen : SeenM wr (w.heap.size + 1) k (firsts V k)
  below : Below w.heap.size w wr

theorem Q.start (w : World) (V : Nat → Nat) : Q w V 0 ((w.alloc (.cells #[.pointer none, .slice none 0 0] 45)).alloc (.map #[] 0)) := by
  have hs : (w.alloc (.cells #[.pointer none, .slice none 0 0] 45)).heap.size = w.heap.size + 1 := by simp
  refine ⟨.inl ⟨Nat.le_refl _, .slice none 0 0, ?_, ?_, by simp [Value.ownBlock]⟩, ?_, ?_⟩
  · rw [Below.heap_alloc _ _ _ (by rw [hs]; omega)]
    exact heap_alloc_new w _
  · exact World.ownsRowF_nil _ _ _ _
  · rw [← hs]; exact SeenM.made _
  · exact ((Below.refl _ _).alloc (Nat.le_refl _) _).alloc (by rw [hs]; omega) _

theorem firsts_old {V : Nat → Nat} {k : Nat} (h : V k ∈ firsts V k) : firsts V (k + 1) = firsts V k := by simp only [firsts]; rw [if_pos h]
theorem firsts_new {V : Nat → Nat} {k : Nat} (h : V k ∉ firsts V k) : firsts V (k + 1) = firsts V k ++ [V k] := by simp only [firsts]; rw [if_neg h]
theorem bytes_len (l : List UInt8) : (Lib.byteCells l).length = l.length := by simp [Lib.byteCells]

set_option maxRecDepth 100000 in
set_option maxHeartbeats 2000000 in
theorem queue_any (a : Option Addr) (n c : Nat) (V : Nat → Nat) (w : World) (hI : Nums w a n V) (hn : n ≤ 131072) (hV : ∀ i, i < n → V i < 18446744073709551616) (hT : Tab w) :
    Calls Tryd.prog 18 #[.slice a n c] w (fun e w' => e = .returned (.string ⟨(txt (firsts V n)).toArray⟩) ∧ Below w.heap.size w w') := by
  have h0s := hT.size
  have HT := Hid.mk hT
  have HV := Hid.mk hV
  have HI := Hid.mk hI
  have hmk := make46 n
  clear hT hV hI
  go_enter Tryd.func18, Tryd.ntmps18
  go_wp2_with fail
  have hst := Q.start w V
  have HS := Hid.mk hst
  clear hst hmk
  go_loopw [12] (fun iv wr => ∃ k : Nat, k ≤ n ∧ iv = .int .i64 (k : Int) ∧ Q w V k wr) (fun iv _ => n - (intOf iv).toNat)
  case atStart => exact ⟨0, Nat.zero_le _, rfl, HS.out⟩
  case round =>
    clear HS
    obtain ⟨k, hk, rfl, hq⟩ := hrel
    obtain ⟨hbld, hseen, hbel⟩ := hq
    by_cases hlt : k < n
    · rcases HI.out with hI | ⟨b, off, rfl, hb, hcell⟩
      · exfalso; omega
      have hx := HV.out k hlt
      have s0 := (hbel.cell (p := ⟨b, off + k, none⟩) hb).trans (hcell k hlt)
      have k0 : (0 : Int) ≤ (k : Int) := by omega
      have k1 : (k : Int) < (n : Int) := by omega
      have hlk := hseen.look hx
      by_cases hmem : V k ∈ firsts V k
      · rw [decide_eq_true hmem] at hlk
        have HQ : Hid (Q w V (k + 1) wr) := ⟨by rw [firsts_old hmem]; exact hbld, by rw [firsts_old hmem]; exact hseen.mono (by omega), hbel⟩
        clear hbld hseen hcell hmem
        go_wp2
        go_roundw
        case rel => exact ⟨k + 1, by omega, by go_num, HQ.out⟩
        case measure => simp [intOf] <;> omega
      · rw [decide_eq_false hmem] at hlk
        obtain ⟨w1, hrun, hseen1, hg⟩ := hseen.put hx (by unfold maxLen; omega)
        have hbld1 := Bld.map hbld hseen.obj (by omega) hg
        have hbel1 : Below w.heap.size w w1 := hbel.grown hg hbel.size (fun j hj => by cases hj; omega)
        have hfn := firsts_new hmem
        have htx := txt_snoc (firsts V k) (V k)
        have hlen := txt_length (firsts V k) (firsts_lt V n HV.out k hk)
        have hfl := firsts_length V k
        have hps := txt_pos (firsts V k)
        have HL := Hid.mk (Tryd.Builder_Len_f w.heap.size w.heap.size (Lib.byteCells (txt (firsts V k))) w1 hbld1)
        rw [bytes_len] at HL
        rw [← hfn] at htx hseen1
        have hdl : (Lib.decDigits (V k)).length ≤ 20 := by rw [Lib.decDigits_length]; exact Lib.nDigits_le20 _ hx
        have HFmt := Hid.mk (fun w2 hT2 => fmt_any (V k) hx w2 hT2)
        have HB1 := Hid.mk hbld1
        have HS1 := Hid.mk hseen1
        have HFN := Hid.mk hfn
        have HTX := Hid.mk htx
        clear hbld hseen hcell hmem hbld1 hseen1 hg hfn htx hbel
        go_wp2_with fail
        refine HL.out.mono ?_
        rintro e w' ⟨rfl, hw⟩
        obtain rfl := hw.symm
        clear hw hlk hrun s0
        by_cases hnil : firsts V k = []
        · have h0 : (txt (firsts V k)).length = 0 := by rw [hnil, txt_nil]; rfl
          have hbl : blank (firsts V k) = [] := by unfold blank; rw [if_pos hnil]
          rw [hbl, List.append_nil] at HTX
          rw [h0]
          go_wp2_with fail
          refine (HFmt.out _ (HT.out.below hbel1 h0s)).mono ?_
          rintro e w2 ⟨rfl, hb2⟩
          have hbel2 : Below w.heap.size w w2 := hbel1.trans (hb2.mono hbel1.size)
          have HB2 := Hid.mk (Bld.below HB1.out hb2)
          have HS2 := Hid.mk (HS1.out.below hb2)
          have hb2s : w.heap.size ≤ w2.heap.size := hbel2.size
          go_wp2_with fail
          refine (Tryd.Builder_WriteString_k w.heap.size w.heap.size _ _ w2 HB2.out (by rw [bytes_len]; show _ + (Lib.decDigits (V k)).length ≤ _; omega) hb2s).mono ?_
          rintro e w3 ⟨rfl, hat, hb3, ho3⟩
          have HQ : Hid (Q w V (k + 1) w3) := ⟨by
            right
            rw [HTX.out, Lib.byteCells_append]
            exact hat, HS2.out.others ho3 (by omega), hbel2.trans hb3⟩
          clear hat hb3 ho3 HB2 HS2 HB1 HS1
          go_wp2
          go_roundw
          case rel => exact ⟨k + 1, by omega, by go_num, HQ.out⟩
          case measure => simp [intOf] <;> omega
        · have hp := hps hnil
          have hpI : (0 : Int) < ((txt (firsts V k)).length : Int) := by omega
          have hbl : blank (firsts V k) = [32] := by unfold blank; rw [if_neg hnil]
          rw [hbl] at HTX
          go_wp2_with fail
          refine (Tryd.Builder_WriteByte_k w.heap.size w.heap.size _ 32 w1 HB1.out (by rw [bytes_len]; omega) hbel1.size).mono ?_
          rintro e w2 ⟨rfl, hat, hb2, ho2⟩
          have hbel2 : Below w.heap.size w w2 := hbel1.trans hb2
          have HB2 : Hid (Bld w.heap.size w.heap.size (txt (firsts V k) ++ [32]) w2) := Or.inr (by rw [Lib.byteCells_append]; exact hat)
          have HS2 := Hid.mk (HS1.out.others ho2 (by omega))
          clear hat hb2 ho2 HB1 HS1 hpI
          go_wp2_with fail
          refine (HFmt.out _ (HT.out.below hbel2 h0s)).mono ?_
          rintro e w3 ⟨rfl, hb3⟩
          have hbel3 : Below w.heap.size w w3 := hbel2.trans (hb3.mono hbel2.size)
          have HB3 := Hid.mk (Bld.below HB2.out hb3)
          have HS3 := Hid.mk (HS2.out.below hb3)
          have hb3s : w.heap.size ≤ w3.heap.size := hbel3.size
          clear HB2 HS2 hb3
          go_wp2_with fail
          refine (Tryd.Builder_WriteString_k w.heap.size w.heap.size _ _ w3 HB3.out (by rw [bytes_len, List.length_append]; show _ + (Lib.decDigits (V k)).length ≤ _; simp; omega) hb3s).mono ?_
          rintro e w4 ⟨rfl, hat, hb4, ho4⟩
          have HQ : Hid (Q w V (k + 1) w4) := ⟨by
            right
            rw [HTX.out, Lib.byteCells_append]
            exact hat, HS3.out.others ho4 (by omega), hbel3.trans hb4⟩
          clear hat hb4 ho4 HB3 HS3
          go_wp2
          go_roundw
          case rel => exact ⟨k + 1, by omega, by go_num, HQ.out⟩
          case measure => simp [intOf] <;> omega
    · obtain rfl : k = n := by omega
      have HB := Hid.mk hbld
      clear hbld hseen
      obtain ⟨M, hM⟩ : ∃ M, M = txt (firsts V k) := ⟨_, rfl⟩
      rw [← hM] at HB
      have HM := Hid.mk hM
      clear hM
      go_wp2_with fail
      refine (Tryd.Builder_String_any_k w.heap.size w.heap.size M _ HB.out hbel.size).mono ?_
      rintro e w2 ⟨rfl, _, hb2, _⟩
      go_wp2
      go_ret
      rw [← HM.out]
      exact ⟨rfl, hbel.trans hb2⟩

theorem zzqueue_any (a : Option Addr) (n c : Nat) (V : Nat → Nat) (w : World) (hI : Nums w a n V) (hn : n ≤ 131072) (hV : ∀ i, i < n → V i < 18446744073709551616) (hT : Tab w) :
    Calls Tryd.prog 15 #[.slice a n c] w (fun e w' => e = .returned (.string ⟨(txt (firsts V n)).toArray⟩) ∧ Below w.heap.size w w') := by
  have H := Hid.mk (queue_any a n c V w hI hn hV hT)
  generalize txt (firsts V n) = tx at H ⊢
  clear hI hV hT
  go_enter Tryd.func15, Tryd.ntmps15
  go_wp2_with fail
  refine H.out.mono ?_
  rintro e w1 ⟨rfl, hb⟩
  go_wp2
  go_ret
  exact ⟨rfl, hb⟩

set_option maxHeartbeats 400000 in
theorem bytes13 (a : Option Addr) (n c : Nat) (w : World) (h : n ≤ maxLen) : Calls Tryd.prog 13 #[.slice a n c] w (fun e w' => (∃ r : Bool, e = .returned (.bool r)) ∧ w' = w) := by
  unfold maxLen at h
  go_enter Tryd.func13, Tryd.ntmps13
  go_wp2
  all_goals
    go_ret
    exact ⟨⟨_, rfl⟩, rfl⟩

end Go.Proofs.Qxb6603154aDoor
