/- The laws' helpers: sameInts, qHas, qStands, lessBytes, joined. -/
import Derived.Test.YtpkgkppehefibaaGreatDoorL2
namespace Go.Proofs.YtpkgkppehefibaaGreatDoor
open Go.RowKit Sa

set_option maxRecDepth 100000 in
theorem sameInts_any (A B : Option Addr) (n c m d lo hi lo' hi' : Nat) (F G : Nat → Int) (w : World) (hn : n < 1073741824) (hm : m < 1073741824) (hA : Rd w lo hi A n (iv F)) (hB : Rd w lo' hi' B m (iv G)) :
    Calls Tryz.prog 28 #[.slice A n c, .slice B m d] w fun e w' => e = .returned (.bool (decide (n = m ∧ ∀ i, i < n → F i = G i))) ∧ ∃ nq, w' = w.drewN nq := by
  have H1 := Lib.hid hA; have H2 := Lib.hid hB
  clear hA hB
  by_cases hnm : n = m
  · subst hnm
    rw [show decide (n = n ∧ ∀ i, i < n → F i = G i) = decide (∀ i, i < n → F i = G i) from by simp]
    go_enter Tryz.func28, Tryz.ntmps28
    go_wp2
    go_loopg [13] (n + 1) (fun gk i wr => (∃ k nq : Nat, k ≤ n ∧ i = .int .i64 k ∧ wr = w.drewN nq ∧ ∀ u, u < k → F u = G u) ∧ n - (intOf i).toNat < gk)
    case atStart => exact ⟨⟨0, 0, by omega, rfl, rfl, fun u h => by omega⟩, by simp [intOf]⟩
    case round =>
      obtain ⟨⟨k, nq0, hk, rfl, rfl, heq⟩, hgk⟩ := hrel
      simp only [intOf, Int.toNat_natCast] at hgk
      have HE := Lib.hid heq
      clear heq
      by_cases hlt : k < n
      · obtain ⟨g, o, rfl, _, _, hg3⟩ := H1.out.c (by omega)
        obtain ⟨g', o', rfl, _, _, hg3'⟩ := H2.out.c (by omega)
        have hc1 := hg3 k hlt
        have hc2 := hg3' k hlt
        unfold iv at hc1 hc2
        clear hg3 hg3' H1 H2
        by_cases hte : F k = G k
        · rw [hte] at hc1
          have HTE := Lib.hid hte
          clear hte
          go_wp2
          go_quiet (fail)
          go_wp2
          go_roundg (n - (k + 1) + 1)
          case rel => exact ⟨⟨k + 1, _, by omega, by go_num, rfl, fun u hu => by
            rcases Nat.lt_or_ge u k with c | c
            · exact HE.out u c
            · obtain rfl : u = k := by omega
              exact HTE.out⟩, by simp only [intOf]; omega⟩
          case measure => omega
        · have hne : (F k != G k) = true := bne_iff_ne.2 hte
          have HTE := Lib.hid hte
          clear hte
          go_wp2
          go_quiet (fail)
          go_wp2
          go_ret
          have hd : decide (∀ i, i < n → F i = G i) = false := decide_eq_false (fun h => HTE.out (h k hlt))
          exact ⟨by rw [hd]; rfl, nq0 + nq, by rw [World.drewN_drewN]⟩
      · obtain rfl : k = n := by omega
        go_wp2
        go_ret
        have hd : decide (∀ i, i < k → F i = G i) = true := decide_eq_true HE.out
        exact ⟨by rw [hd]; rfl, _, rfl⟩
  · have hne : ((n : Int) != (m : Int)) = true := bne_iff_ne.2 (by omega)
    go_enter Tryz.func28, Tryz.ntmps28
    go_wp2
    go_ret
    have hd : decide (n = m ∧ ∀ i, i < n → F i = G i) = false := decide_eq_false (fun h => hnm h.1)
    exact ⟨by rw [hd]; rfl, 0, rfl⟩

/-- append(v, s...) of bytes onto a row of the call's own -/
theorem append8own (w : World) (base : Nat) (v : Value) (m : Nat) (xs : List Value) (hown : w.ownsRow base 5 1 v m xs) {lo hi' n : Nat} {A : Option Addr} {T : Nat → Nat} (h : Rd w lo hi' A n (bv T)) (c : Nat) (hmn : m + n < 1073741824) (hbase : base ≤ w.heap.size) :
    ∃ v' w', (∀ ty, (Builtin.append_ #[22, 22] ty #[v, .slice A n c]).run Tryz.prog w = .ok v' w') ∧ w'.ownsRow base 5 1 v' (m + n) (xs ++ (List.range n).map (bv T)) ∧ Below base w w' := by
  obtain ⟨i0, hi, hz0, hz1, hz2⟩ := info_parts info8
  obtain ⟨v', w', h1, h2, h3, h4⟩ := run_append_row (P := Tryz.prog) w base 22 5 i0 _ 1 Tryz.underlying22 hi hz0 hz1 hz2 rfl v m xs hown h c (fun _ _ => rfl) (by simp only [maxLen]; omega) (by omega) hbase
  exact ⟨v', w', h1, h2, (Below.refl _ _).grown h3 hbase (fun k hk => (hown.lt k hk).1)⟩
/-- what a function does that hands out a copy that can grow -/
def CopiesOwn (f : FuncId) : Prop := ∀ (A : Option Addr) (n c lo hi : Nat) (T : Nat → Nat) (w : World), n < 1073741824 → hi ≤ w.heap.size → Rd w lo hi A n (bv T) →
  Calls Tryz.prog f #[.slice A n c] w fun e w' => ∃ v, e = .returned v ∧ w'.ownsRow w.heap.size 5 1 v n ((List.range n).map (bv T)) ∧ Below w.heap.size w w'
theorem copied_own : CopiesOwn 19 := by
  intro A n c lo hi T w hn hh h
  obtain ⟨v', w1, hr, h1, h2⟩ := append8own w w.heap.size (.slice none 0 0) 0 [] (nil_own w _ _) h c (by omega) (Nat.le_refl _)
  rw [Nat.zero_add, List.nil_append] at h1
  have H2 := Lib.hid h2; have H1 := Lib.hid h1
  have HR := Lib.hid hr
  clear h h1 h2 hr
  go_enter Tryz.func19, Tryz.ntmps19
  go_wp2_with (at_builtin; refine wpList_append_run rfl rfl rfl rfl HR.out ?_)
  go_ret
  exact ⟨v', rfl, H1.out, H2.out⟩
theorem cat_list {T S : Nat → Nat} {n m : Nat} : ∀ i u, ((List.range n).map (bv T) ++ (List.range m).map (bv S))[i]? = some u → bv (cat T n S) i = u := by
  intro i u hu
  rcases Nat.lt_or_ge i n with c | c
  · rw [List.getElem?_append_left (by simpa using c), List.getElem?_map, List.getElem?_range c] at hu
    have := Option.some.inj hu
    unfold bv cat at *; simp only [if_pos c]; exact this
  · rw [List.getElem?_append_right (by simpa using c), List.length_map, List.length_range, List.getElem?_map] at hu
    rcases Nat.lt_or_ge (i - n) m with c' | c'
    · rw [List.getElem?_range c'] at hu
      have := Option.some.inj hu
      unfold bv cat at *; simp only [if_neg (show ¬ i < n by omega)]; exact this
    · rw [List.getElem?_eq_none (by simpa using c')] at hu; cases hu
end Go.Proofs.YtpkgkppehefibaaGreatDoor
