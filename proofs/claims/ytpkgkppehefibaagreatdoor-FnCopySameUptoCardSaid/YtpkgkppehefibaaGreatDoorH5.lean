/- The exact laws' helpers over bools and ints; spec.IndexMarks. -/
import Derived.Test.YtpkgkppehefibaaGreatDoorH2
namespace Go.Proofs.YtpkgkppehefibaaGreatDoor
open Go.RowKit Sa

set_option maxRecDepth 100000 in
/-- two lists of bools of one length that are equal -/
theorem eqbool_any (A B : Option Addr) (n c d lo hi lo' hi' : Nat) (T U : Nat → Bool) (w : World) (hn : n < 1073741824) (hA : Rd w lo hi A n (lv T)) (hB : Rd w lo' hi' B n (lv U)) (he : ∀ i, i < n → T i = U i) :
    Calls Tryz.prog 12 #[.slice A n c, .slice B n d] w fun e w' => e = .returned (.bool true) ∧ ∃ nq, w' = w.drewN nq := by
  have H1 := Lib.hid hA; have H2 := Lib.hid hB; have HE := Lib.hid he
  clear hA hB he
  go_enter Tryz.func12, Tryz.ntmps12
  go_wp2_with fail
  go_loopg [5] (n + 1) (fun gk i wr => (∃ k nq : Nat, k ≤ n ∧ i = .int .i64 k ∧ wr = w.drewN nq) ∧ n - (intOf i).toNat < gk)
  case atStart => exact ⟨⟨0, 0, by omega, rfl, rfl⟩, by simp [intOf]⟩
  case round =>
    obtain ⟨⟨k, nq0, hk, rfl, rfl⟩, hgk⟩ := hrel
    simp only [intOf, Int.toNat_natCast] at hgk
    by_cases hlt : k < n
    · obtain ⟨g, o, rfl, hg1, hg2, hg3⟩ := H1.out.c (by omega)
      obtain ⟨g', o', rfl, hg1', hg2', hg3'⟩ := H2.out.c (by omega)
      have hc1 := hg3 k hlt
      have hc2 := hg3' k hlt
      unfold lv at hc1 hc2
      rw [← HE.out k hlt] at hc2
      clear hg1 hg2 hg3 hg1' hg2' hg3' H1 H2 HE
      generalize T k = b at *
      cases b with
      | false =>
        go_wp2
        go_quiet (fail)
        go_wp2
        go_roundg (n - (k + 1) + 1)
        case rel => exact ⟨⟨k + 1, _, by omega, by go_num, rfl⟩, by simp only [intOf]; omega⟩
        case measure => omega
      | true =>
        go_wp2
        go_quiet (fail)
        go_wp2
        go_roundg (n - (k + 1) + 1)
        case rel => exact ⟨⟨k + 1, _, by omega, by go_num, rfl⟩, by simp only [intOf]; omega⟩
        case measure => omega
    · obtain rfl : k = n := by omega
      go_wp2
      go_ret
      exact ⟨rfl, _, rfl⟩

/-- k%3 == 0 -/
def mb (k : Nat) : Bool := k % 3 == 0
theorem mb_int (k : Nat) : (((k : Int)).tmod 3 == 0) = mb k := by
  unfold mb
  have h : ((k : Int)).tmod 3 = ((k % 3 : Nat) : Int) := by rw [Int.tmod_eq_emod_of_nonneg (by omega)]; rfl
  rw [h]
  generalize k % 3 = z
  cases z with
  | zero => rfl
  | succ z => rfl
set_option maxRecDepth 100000 in
/-- a list of bools gets the marks from k0 on -/
theorem markbool_any (A : Option Addr) (n c lo hi k0 : Nat) (f : Nat → Value) (w : World) (hn : n < 1073741824) (hk0 : k0 < 1073741824) (hA : Wr w lo hi A n f) (hf : ∀ i, i < n → ∃ x, f i = .bool x) :
    Calls Tryz.prog 15 #[.slice A n c, .int .i64 k0] w fun e w' => e = .returned (.int .i64 ((k0 + n : Nat) : Int)) ∧ Wr w' lo hi A n (lv fun i => mb (k0 + i)) ∧ Chg (fun b _ => lo ≤ b ∧ b < hi) w w' := by
  have hs : Hid (Wr w lo hi A n (fun j => if j < 0 then lv (fun i => mb (k0 + i)) j else f j)) := hA.congr (fun i _ => by simp)
  have HF := Lib.hid hf
  clear hA hf
  go_enter Tryz.func15, Tryz.ntmps15
  go_wp2_with fail
  go_loopg [1, 5] (n + 1) (fun gk kv i wr => (∃ k : Nat, k ≤ n ∧ i = .int .i64 k ∧ kv = .int .i64 ((k0 + k : Nat) : Int) ∧ Wr wr lo hi A n (fun j => if j < k then lv (fun i => mb (k0 + i)) j else f j) ∧ Chg (fun b _ => lo ≤ b ∧ b < hi) w wr) ∧ n - (intOf i).toNat < gk)
  case atStart => exact ⟨⟨0, by omega, rfl, by simp, hs.out, Chg.refl _ _⟩, by simp [intOf]⟩
  case round =>
    clear hs
    obtain ⟨⟨k, hk, rfl, rfl, hwr, hch⟩, hgk⟩ := hrel
    simp only [intOf, Int.toNat_natCast] at hgk
    by_cases hlt : k < n
    · obtain ⟨g, o, rfl, hg1, hg2, hg3⟩ := hwr.c (by omega)
      have hc1 := hg3 k hlt
      simp only [Nat.lt_irrefl, if_false] at hc1
      obtain ⟨x, hx⟩ := HF.out k hlt
      rw [hx] at hc1
      have hz1 := hwr.z _ _ rfl k hlt
      have HW := Lib.hid hwr; have HC := Lib.hid hch
      have HG1 := Lib.hid hg1; have HG2 := Lib.hid hg2
      clear hwr hch hg1 hg2 hg3 hx
      go_wp2
      go_roundg (n - (k + 1) + 1)
      case rel =>
        refine ⟨⟨k + 1, by omega, by go_num, by go_num, ?_, HC.out.setCell (fun _ => ⟨HG1.out, HG2.out⟩) _⟩, by simp only [intOf]; omega⟩
        refine (HW.out.set hlt _).congr fun j _ => ?_
        unfold updV
        by_cases c : j = k
        · subst c
          simp only [if_true, if_pos (show j < j + 1 by omega), lv]
          have hmb := mb_int (k0 + j)
          simp only [Int.natCast_add] at hmb
          rw [← hmb]
          first | rfl | (congr 1; rw [Int.tmod_eq_emod_of_nonneg (by omega)])
        · by_cases c' : j < k
          · simp only [if_neg c, if_pos c', if_pos (show j < k + 1 by omega)]
          · simp only [if_neg c, if_neg c', if_neg (show ¬ j < k + 1 by omega)]
      case measure => omega
    · obtain rfl : k = n := by omega
      have HW := Lib.hid hwr; have HC := Lib.hid hch
      clear hwr hch
      go_wp2
      go_ret
      exact ⟨rfl, HW.out.congr fun i hi => by rw [if_pos hi], HC.out⟩

set_option maxRecDepth 100000 in
/-- .. and holds them -/
theorem heldbool_any (A : Option Addr) (n c lo hi k0 : Nat) (w : World) (hn : n < 1073741824) (hk0 : k0 < 1073741824) (hA : Rd w lo hi A n (lv fun i => mb (k0 + i))) :
    Calls Tryz.prog 16 #[.slice A n c, .int .i64 k0] w fun e w' => e = .returned (.int .i64 ((k0 + n : Nat) : Int)) ∧ w = w' := by
  have H1 := Lib.hid hA
  clear hA
  go_enter Tryz.func16, Tryz.ntmps16
  go_wp2_with fail
  go_loopg [1, 5] (n + 1) (fun gk kv i wr => (∃ k : Nat, k ≤ n ∧ i = .int .i64 k ∧ kv = .int .i64 ((k0 + k : Nat) : Int) ∧ wr = w) ∧ n - (intOf i).toNat < gk)
  case atStart => exact ⟨⟨0, by omega, rfl, by simp, rfl⟩, by simp [intOf]⟩
  case round =>
    obtain ⟨⟨k, hk, rfl, rfl, rfl⟩, hgk⟩ := hrel
    simp only [intOf, Int.toNat_natCast] at hgk
    by_cases hlt : k < n
    · obtain ⟨g, o, rfl, hg1, hg2, hg3⟩ := H1.out.c (by omega)
      have hc1 := hg3 k hlt
      simp only [lv] at hc1
      have hmb := mb_int (k0 + k)
      simp only [Int.natCast_add] at hmb
      rw [← hmb] at hc1
      clear hg1 hg2 hg3 H1 hmb
      go_wp2
      go_roundg (n - (k + 1) + 1)
      case rel => exact ⟨⟨k + 1, by omega, by go_num, by go_num, rfl⟩, by simp only [intOf]; omega⟩
      case measure => omega
    · obtain rfl : k = n := by omega
      go_wp2
      go_ret
      exact ⟨rfl, rfl⟩

/-- the places of s among the first i, ascending -/
def occL (T : Nat → Nat) (n : Nat) (S : Nat → Nat) (m i : Nat) : List Nat := (List.range i).filter fun p => decide (0 < m ∧ stands T n S m p)
theorem occL_len {T S : Nat → Nat} {n m : Nat} : ∀ i, (occL T n S m i).length = occ T n S m i
  | 0 => rfl
  | i + 1 => by
    have ih := occL_len (T := T) (S := S) (n := n) (m := m) i
    unfold occL at ih ⊢
    rw [List.range_succ, List.filter_append, List.length_append, ih]
    unfold occ
    simp only [cn]
    by_cases h : 0 < m ∧ stands T n S m i
    · simp [h]
    · simp [h]
theorem occL_mem {T S : Nat → Nat} {n m i p : Nat} : p ∈ occL T n S m i ↔ p < i ∧ 0 < m ∧ stands T n S m p := by
  unfold occL; rw [List.mem_filter, List.mem_range, decide_eq_true_iff]
set_option maxRecDepth 100000 in
/-- spec.Occurrences, with what it lists -/
theorem occurrences_all (A : Option Addr) (n c lo hi : Nat) (T : Nat → Nat) (B : Option Addr) (m e lo' hi' : Nat) (S : Nat → Nat) (w : World) (hn : n < 1073741824) (hm : m < 1073741824) (hh : hi ≤ w.heap.size) (hh' : hi' ≤ w.heap.size) (h : Rd w lo hi A n (bv T)) (h' : Rd w lo' hi' B m (bv S)) :
    Calls Tryz.prog 39 #[.slice A n c, .slice B m e] w fun e w' => ∃ A' c', e = .returned (.slice A' (occ T n S m n) c') ∧ Wr w' w.heap.size w'.heap.size A' (occ T n S m n) (iv fun j => ((occL T n S m n).getD j 0 : Nat)) ∧ Below w.heap.size w w' := by
  have H := Lib.hid h; have H' := Lib.hid h'
  clear h h'
  go_enter Tryz.func39, Tryz.ntmps39
  go_wp2
  go_loopg [5, 9] (n + 1) (fun gk ov iv wr => (∃ (t : Nat), t ≤ n ∧ iv = .int .i64 t ∧ wr.ownsRow w.heap.size 3 1 ov (occ T n S m t) ((occL T n S m t).map fun p => Value.int .i64 ((p : Nat) : Int)) ∧ Below w.heap.size w wr) ∧ n - (intOf iv).toNat < gk)
  case atStart => exact ⟨⟨0, by omega, rfl, nil_own w _ _, Below.refl _ _⟩, by simp [intOf]⟩
  case round =>
    obtain ⟨⟨t, ht, rfl, hown, hbl⟩, hgk⟩ := hrel
    simp only [intOf, Int.toNat_natCast] at hgk
    have HO := Lib.hid hown; have HB := Lib.hid hbl
    clear hown hbl
    by_cases hlt : t < n
    · by_cases hm0 : 0 < m
      · have hm1 : (0 : Int) < (m : Int) := by omega
        go_wp2_with fail
        refine (occurs_any A n c lo hi T B m e lo' hi' S t _ hn hm (by omega) (H.out.below HB.out hh) (H'.out.below HB.out hh')).mono ?_
        rintro _ w1 ⟨rfl, q, rfl⟩
        by_cases hst : stands T n S m t
        · rw [decide_eq_true hst]
          have hoc : occ T n S m (t + 1) = occ T n S m t + 1 := by
            unfold occ; simp only [cn]; simp [hm0, hst]
          have hol2 : (occL T n S m (t + 1)).map (fun p => Value.int .i64 ((p : Nat) : Int)) = (occL T n S m t).map (fun p => Value.int .i64 ((p : Nat) : Int)) ++ [.int .i64 (t : Int)] := by
            unfold occL; rw [List.range_succ, List.filter_append, List.map_append]; simp [hm0, hst]
          have HOC := Lib.hid hoc; have HOL := Lib.hid hol2
          clear hst hoc hol2
          have hol : occ T n S m t ≤ t := cn_le _ _
          obtain ⟨w2, hw2⟩ : ∃ w2, w2 = wr.drewN q := ⟨_, rfl⟩
          have HO2 : Hid (w2.ownsRow w.heap.size 3 1 u5 (occ T n S m t) ((occL T n S m t).map fun p => Value.int .i64 ((p : Nat) : Int))) := by rw [hw2]; exact HO.out
          have HB2 : Hid (Below w.heap.size w w2) := by rw [hw2]; exact HB.out.trans ⟨rfl, rfl, rfl, Nat.le_refl _, fun _ _ => rfl⟩
          rw [← hw2]
          clear hw2 HO HB
          obtain ⟨v', w3, hr, hown3, hb3⟩ := appendOneI w2 w.heap.size u5 _ _ HO2.out (by omega) HB2.out.size t
          rw [← HOL.out] at hown3
          have HR := Lib.hid hr; have HO3 := Lib.hid hown3; have HB3 := Lib.hid hb3
          clear hr hown3 hb3
          go_wp2_with (at_builtin; refine wpList_append_run rfl rfl rfl rfl HR.out ?_)
          go_roundg (n - (t + 1) + 1)
          case rel => exact ⟨⟨t + 1, by omega, by go_num, by rw [HOC.out]; exact HO3.out, HB2.out.trans HB3.out⟩, by simp only [intOf]; omega⟩
          case measure => omega
        · rw [decide_eq_false hst]
          have hoc : occ T n S m (t + 1) = occ T n S m t := by
            unfold occ; simp only [cn]; simp [hm0, hst]
          have hol2 : occL T n S m (t + 1) = occL T n S m t := by
            unfold occL; rw [List.range_succ, List.filter_append]; simp [hm0, hst]
          have HOC := Lib.hid hoc; have HOL := Lib.hid hol2
          clear hst hoc hol2
          go_wp2
          go_roundg (n - (t + 1) + 1)
          case rel => exact ⟨⟨t + 1, by omega, by go_num, by rw [HOC.out, HOL.out]; exact HO.out, HB.out.trans ⟨rfl, rfl, rfl, Nat.le_refl _, fun _ _ => rfl⟩⟩, by simp only [intOf]; omega⟩
          case measure => omega
      · have hoc : occ T n S m (t + 1) = occ T n S m t := by
          unfold occ; simp only [cn]; simp [hm0]
        have hol2 : occL T n S m (t + 1) = occL T n S m t := by
          unfold occL; rw [List.range_succ, List.filter_append]; simp [hm0]
        have HOC := Lib.hid hoc; have HOL := Lib.hid hol2
        clear hoc hol2
        have hm1 : ¬ (0 : Int) < (m : Int) := by omega
        go_wp2
        go_roundg (n - (t + 1) + 1)
        case rel => exact ⟨⟨t + 1, by omega, by go_num, by rw [HOC.out, HOL.out]; exact HO.out, HB.out⟩, by simp only [intOf]; omega⟩
        case measure => omega
    · obtain rfl : t = n := by omega
      obtain ⟨A', c', he, h3, h4⟩ := Wr.of_own (f := iv fun j => ((occL T t S m t).getD j 0 : Nat)) HO.out (fun i u hu => by
        rw [List.getElem?_map] at hu
        show Value.int .i64 (((occL T t S m t).getD i 0 : Nat) : Int) = u
        rw [List.getD_eq_getElem?_getD]
        cases hx : (occL T t S m t)[i]? with
        | none => rw [hx] at hu; cases hu
        | some x => rw [hx] at hu; exact Option.some.inj hu)
      have H4 := Lib.hid h4; have HE := Lib.hid he
      clear h3 h4 he
      go_wp2
      go_ret
      exact ⟨A', c', congrArg Ending.returned HE.out, H4.out, HB.out⟩

set_option maxRecDepth 100000 in
/-- spec.IndexMarks -/
theorem specmarks_any (A : Option Addr) (n c lo hi : Nat) (T : Nat → Nat) (B : Option Addr) (m e lo' hi' : Nat) (S : Nat → Nat) (w : World) (hn : n < 1073741824) (hm : m < 1073741824) (hh : hi ≤ w.heap.size) (hh' : hi' ≤ w.heap.size) (h : Rd w lo hi A n (bv T)) (h' : Rd w lo' hi' B m (bv S)) :
    Calls Tryz.prog 29 #[.slice A n c, .slice B m e] w fun e w' => ∃ A', e = .returned (.slice A' n n) ∧ Wr w' w.heap.size w'.heap.size A' n (lv (mrk T n S m)) ∧ Below w.heap.size w w' := by
  have hmk : ∀ W, (Instr.makeSlice 23 (.int .i64 (n : Int)) (.int .i64 (n : Int))).run Tryz.prog W = .ok (.slice (some ⟨W.heap.size, 0, none⟩) n n) (W.alloc (.cells (madeCells #[.bool false] n) 4)) := fun W => run_makeB n hn W
  obtain ⟨w1, hw1⟩ : ∃ w1, w1 = w.alloc (.cells (madeCells #[.bool false] n) 4) := ⟨_, rfl⟩
  have h0 : Wr w1 w.heap.size (w.heap.size + 1) (some ⟨w.heap.size, 0, none⟩) n (lv fun _ => false) := by rw [hw1]; exact wr_made w n _ _
  have HL : Below w.heap.size w w1 := by rw [hw1]; exact (Below.refl _ _).alloc (Nat.le_refl _) _
  have hz : w1.heap.size = w.heap.size + 1 := by rw [hw1]; simp
  have hoc : occ T n S m n ≤ n := cn_le _ _
  have hcall := occurrences_all A n c lo hi T B m e lo' hi' S w1 hn hm (by omega) (by omega) (h.below HL hh) (h'.below HL hh')
  have HC := Lib.hid hcall; have H0 := Lib.hid h0; have HLL := Lib.hid HL; have HZ := Lib.hid hz; have HW1 := Lib.hid hw1
  clear h h' hcall h0 HL hz hw1
  go_enter Tryz.func29, Tryz.ntmps29
  go_wp2_with fail
  rw [← HW1.out]
  refine HC.out.mono ?_
  rintro _ w2 ⟨A2, c2, rfl, hwo, hbl⟩
  have WO := Lib.hid hwo
  have hs : Hid (Wr w2 w.heap.size (w.heap.size + 1) (some ⟨w.heap.size, 0, none⟩) n (lv (among (fun j => (occL T n S m n).getD j 0) 0))) := (H0.out.below hbl (by rw [HZ.out]; omega)).congr (fun i _ => by unfold lv; rw [among_zero])
  have HB2 : Hid (Below w.heap.size w w2) := HLL.out.trans (hbl.mono (by rw [HZ.out]; omega))
  have HSZ2 : Hid (w.heap.size + 1 ≤ w2.heap.size) := by have := hbl.size; rw [HZ.out] at this; exact this
  have hmem : ∀ j, j < occ T n S m n → (occL T n S m n).getD j 0 ∈ occL T n S m n := fun j hj => by
    rw [List.getD_eq_getElem?_getD, List.getElem?_eq_getElem (by rw [occL_len]; exact hj)]; simp
  have HM := Lib.hid hmem
  clear hwo hbl HC H0 HLL HW1 hmem hmk
  generalize hp : (fun j => (occL T n S m n).getD j 0) = p at *
  have HP := Lib.hid hp
  clear hp
  generalize hk : occ T n S m n = k at *
  have HK := Lib.hid hk
  clear hk
  go_wp2_with fail
  go_loopg [15] (k + 1) (fun gk i wr => (∃ t : Nat, t ≤ k ∧ i = .int .i64 t ∧ Wr wr w.heap.size (w.heap.size + 1) (some ⟨w.heap.size, 0, none⟩) n (lv (among p t)) ∧ Chg (fun b _ => w.heap.size ≤ b ∧ b < w.heap.size + 1) w2 wr) ∧ k - (intOf i).toNat < gk)
  case atStart => exact ⟨⟨0, by omega, rfl, hs.out, Chg.refl _ _⟩, by simp [intOf]⟩
  case round =>
    clear hs
    obtain ⟨⟨t, ht, rfl, hwr, hch⟩, hgk⟩ := hrel
    simp only [intOf, Int.toNat_natCast] at hgk
    have hpt0 : ∀ j, j < k → p j < n := fun j hj => by
      have := HM.out j hj
      rw [← HP.out]
      exact (occL_mem.1 this).1
    by_cases hlt : t < k
    · have hwo2 := WO.out.chg (Nat.le_refl _) hch (fun b _ h1 _ h2 => by have := HZ.out; omega)
      obtain ⟨g, o, rfl, hg1, hg2, hg3⟩ := hwo2.c (by omega)
      have hc1 := hg3 t hlt
      simp only [iv] at hc1
      have hpt := hpt0 t hlt
      have hc2 := hwr.at_ hpt
      have hz2 := hwr.z _ _ rfl (p t) hpt
      unfold lv at hc2
      simp only [Nat.zero_add] at hc2 hz2
      have hpe : (occL T n S m n).getD t 0 = p t := by rw [← HP.out]
      rw [hpe] at hc1
      have HW := Lib.hid hwr; have HCH := Lib.hid hch
      clear hwr hch hg3 hg1 hg2 hwo2 hpe hpt0
      obtain ⟨x, hx⟩ : ∃ x, x = p t := ⟨_, rfl⟩
      rw [← hx] at hc1 hc2 hz2 hpt
      generalize among p t x = b at hc2
      have HX := Lib.hid hx
      clear hx
      go_wp2
      go_roundg (k - (t + 1) + 1)
      case rel =>
        refine ⟨⟨t + 1, by omega, by go_num, ?_, HCH.out.setCell (fun _ => ⟨Nat.le_refl _, by omega⟩) _⟩, by simp only [intOf]; omega⟩
        have := HW.out.set hpt (.bool true)
        rw [Nat.zero_add] at this
        refine this.congr fun j _ => ?_
        unfold updV lv
        by_cases c : j = x
        · rw [if_pos c]; congr 1; exact (among_iff.2 ⟨t, by omega, by rw [c, HX.out]⟩).symm
        · rw [if_neg c]; congr 1; unfold among; apply decide_eq_decide.2
          constructor
          · rintro ⟨i, h1, h2⟩; exact ⟨i, by omega, h2⟩
          · rintro ⟨i, h1, h2⟩
            refine ⟨i, ?_, h2⟩
            rcases Nat.lt_or_ge i t with c' | c'
            · exact c'
            · obtain rfl : i = t := by omega
              exact absurd (by rw [HX.out, h2]) c
      case measure => omega
    · obtain rfl : t = k := by omega
      have HW := Lib.hid hwr; have HCH := Lib.hid hch
      clear hwr hch
      go_wp2
      go_ret
      refine ⟨_, rfl, (HW.out.mono (Nat.le_refl _) (Nat.le_trans HSZ2.out HCH.out.size)).congr fun i hi => ?_, HB2.out.trans (HCH.out.below (by have := HSZ2.out; omega) (fun b _ h => h.1))⟩
      unfold lv mrk among
      congr 1
      apply decide_eq_decide.2
      rw [← HP.out]
      constructor
      · rintro ⟨j, h1, rfl⟩
        exact (occL_mem.1 (HM.out j h1)).2
      · intro hs
        have hmm : i ∈ occL T n S m n := occL_mem.2 ⟨hi, hs⟩
        obtain ⟨j, hj, e⟩ := List.getElem_of_mem hmm
        refine ⟨j, by rw [← HK.out, ← occL_len]; exact hj, ?_⟩
        show (occL T n S m n).getD j 0 = i
        rw [List.getD_eq_getElem?_getD, List.getElem?_eq_getElem hj, e]; rfl

/-- a slice of bytes that came in, of whatever size -/
structure Bq (w : World) (A : Option Addr) (n c : Nat) (T : Nat → Nat) : Prop where
  rd : R0 w A n (bv T)
  lt : ∀ i, i < n → T i < 256
  nc : n ≤ c
  sz : n < 9223372036854775808
section
variable {A : Option Addr} {n c : Nat} {T : Nat → Nat} {B : Option Addr} {m e : Nat} {S : Nat → Nat} {w : World}
theorem specmarksW (h : Bs w A n c T) (h' : Bs w B m e S) :
    Calls Tryz.prog 29 #[.slice A n c, .slice B m e] w fun e w' => ∃ A' c', e = .returned (.slice A' n c') ∧ n ≤ c' ∧ Wr w' w.heap.size w'.heap.size A' n (lv (mrk T n S m)) ∧ Le w w' :=
  (specmarks_any A n c 0 _ T B m e 0 _ S w h.sm h'.sm (Nat.le_refl _) (Nat.le_refl _) h.rd h'.rd).mono fun _ _ ⟨A', h1, h2, h3⟩ => ⟨A', n, h1, Nat.le_refl _, h2, h3⟩
theorem implmarksW (h : Bs w A n c T) (h' : Bs w B m e S) (hg : MaxOk w) :
    Calls Tryz.prog 22 #[.slice A n c, .slice B m e] w fun e w' => ∃ A' c', e = .returned (.slice A' n c') ∧ n ≤ c' ∧ Wr w' w.heap.size w'.heap.size A' n (lv (mrk T n S m)) ∧ Le w w' :=
  (implmarks_any A n c 0 _ T B m e 0 _ S w h.sm h'.sm (Nat.le_refl _) h.rd h.lt (Nat.le_refl _) h'.rd h'.lt hg).mono fun _ _ ⟨A', h1, h2, h3⟩ => ⟨A', n, h1, Nat.le_refl _, h2, h3⟩
end
end Go.Proofs.YtpkgkppehefibaaGreatDoor
