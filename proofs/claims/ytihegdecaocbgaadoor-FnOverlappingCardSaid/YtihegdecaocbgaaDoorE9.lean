/- The laws' helpers: sameInts, qHas, qStands, lessBytes, joined. -/
import Derived.Test.YtihegdecaocbgaaDoorL2
namespace Go.Proofs.YtihegdecaocbgaaDoor
open Go.RowKit Sa

/-- append(v, s...) of bytes onto a row of the call's own -/
theorem append8own (w : World) (base : Nat) (v : Value) (m : Nat) (xs : List Value) (hown : w.ownsRow base 5 1 v m xs) {lo hi' n : Nat} {A : Option Addr} {T : Nat → Nat} (h : Rd w lo hi' A n (bv T)) (c : Nat) (hmn : m + n < 1073741824) (hbase : base ≤ w.heap.size) :
    ∃ v' w', (∀ ty, (Builtin.append_ #[22, 22] ty #[v, .slice A n c]).run Tryd.prog w = .ok v' w') ∧ w'.ownsRow base 5 1 v' (m + n) (xs ++ (List.range n).map (bv T)) ∧ Below base w w' := by
  obtain ⟨i0, hi, hz0, hz1, hz2⟩ := info_parts info8
  obtain ⟨v', w', h1, h2, h3, h4⟩ := run_append_row (P := Tryd.prog) w base 22 5 i0 _ 1 Tryd.underlying22 hi hz0 hz1 hz2 rfl v m xs hown h c (fun _ _ => rfl) (by simp only [maxLen]; omega) (by omega) hbase
  exact ⟨v', w', h1, h2, (Below.refl _ _).grown h3 hbase (fun k hk => (hown.lt k hk).1)⟩
/-- what a function does that hands out a copy that can grow -/
def CopiesOwn (f : FuncId) : Prop := ∀ (A : Option Addr) (n c lo hi : Nat) (T : Nat → Nat) (w : World), n < 1073741824 → hi ≤ w.heap.size → Rd w lo hi A n (bv T) →
  Calls Tryd.prog f #[.slice A n c] w fun e w' => ∃ v, e = .returned v ∧ w'.ownsRow w.heap.size 5 1 v n ((List.range n).map (bv T)) ∧ Below w.heap.size w w'
theorem qcopy_own : CopiesOwn 16 := by
  intro A n c lo hi T w hn hh h
  obtain ⟨v', w1, hr, h1, h2⟩ := append8own w w.heap.size (.slice none 0 0) 0 [] (nil_own w _ _) h c (by omega) (Nat.le_refl _)
  rw [Nat.zero_add, List.nil_append] at h1
  have H2 := Lib.hid h2; have H1 := Lib.hid h1
  have HR := Lib.hid hr
  clear h h1 h2 hr
  go_enter Tryd.func16, Tryd.ntmps16
  go_wp2_with (at_builtin; refine wpList_append_run rfl rfl rfl rfl HR.out ?_)
  go_ret
  exact ⟨v', rfl, H1.out, H2.out⟩
theorem cat_list {T S : Nat → Nat} {n m : Nat} : ∀ i u, ((List.range n).map (bv T) ++ (List.range m).map (bv S))[i]? = some u → bv (cat T n S) i = u := by
  intro i u hu
  rcases Nat.lt_or_ge i n with c | c
  · rw [List.getElem?_append_left (by simpa using c), List.getElem?_map, List.getElem?_range c] at hu
    have := Option.some.inj hu
    unfold bv cat at *; simp only [if_pos c]; exact this
  · rw [List.getElem?_append_right (by simpa using c), List.length_map, List.length_range, List.getElem?_map] at hu
    rcases Nat.lt_or_ge (i - n) m with c' | c'
    · rw [List.getElem?_range c'] at hu
      have := Option.some.inj hu
      unfold bv cat at *; simp only [if_neg (show ¬ i < n by omega)]; exact this
    · rw [List.getElem?_eq_none (by simpa using c')] at hu; cases hu
set_option maxRecDepth 100000 in
theorem qJoin_any (A : Option Addr) (n c lo hi : Nat) (T : Nat → Nat) (B : Option Addr) (m e lo' hi' : Nat) (S : Nat → Nat) (w : World) (hn : n < 536870912) (hm : m < 536870912) (hh : hi ≤ w.heap.size) (hh' : hi' ≤ w.heap.size) (h : Rd w lo hi A n (bv T)) (h' : Rd w lo' hi' B m (bv S)) :
    Calls Tryd.prog 18 #[.slice A n c, .slice B m e] w fun e w' => ∃ A' c', e = .returned (.slice A' (n + m) c') ∧ n + m ≤ c' ∧ Wr w' w.heap.size w'.heap.size A' (n + m) (bv (cat T n S)) ∧ Below w.heap.size w w' := by
  have H := Lib.hid h; have H' := Lib.hid h'
  clear h h'
  go_enter Tryd.func18, Tryd.ntmps18
  go_wp2_with fail
  refine (qcopy_own A n c lo hi T w (by omega) hh H.out).mono ?_
  rintro _ w1 ⟨v1, rfl, ho, hb⟩
  obtain ⟨v', w2, hr, h1, h2⟩ := append8own w1 w.heap.size v1 n _ ho (H'.out.below hb hh') e (by omega) hb.size
  obtain ⟨A', c', rfl, h3, h4⟩ := Wr.of_own h1 cat_list
  have HR := Lib.hid hr; have H3 := Lib.hid h3; have H4 := Lib.hid h4; have HB := Lib.hid (hb.trans h2)
  clear ho hb hr h1 h2 h3 h4
  go_wp2_with (at_builtin; refine wpList_append_run rfl rfl rfl rfl HR.out ?_)
  go_ret
  exact ⟨A', c', rfl, H3.out, H4.out, HB.out⟩
end Go.Proofs.YtihegdecaocbgaaDoor
