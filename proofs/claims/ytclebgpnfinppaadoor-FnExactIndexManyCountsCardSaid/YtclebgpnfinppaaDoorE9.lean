/- The laws' helpers: sameInts, qHas, qStands, lessBytes, joined. -/
import Derived.Test.YtclebgpnfinppaaDoorL2
namespace Go.Proofs.YtclebgpnfinppaaDoor
open Go.RowKit Sa

set_option maxRecDepth 100000 in
theorem sameInts_any (A B : Option Addr) (n c m d lo hi lo' hi' : Nat) (F G : Nat → Int) (w : World) (hn : n < 1073741824) (hm : m < 1073741824) (hA : Rd w lo hi A n (iv F)) (hB : Rd w lo' hi' B m (iv G)) :
    Calls Tryd.prog 45 #[.slice A n c, .slice B m d] w fun e w' => e = .returned (.bool (decide (n = m ∧ ∀ i, i < n → F i = G i))) ∧ ∃ nq, w' = w.drewN nq := by
  have H1 := Lib.hid hA; have H2 := Lib.hid hB
  clear hA hB
  by_cases hnm : n = m
  · subst hnm
    rw [show decide (n = n ∧ ∀ i, i < n → F i = G i) = decide (∀ i, i < n → F i = G i) from by simp]
    go_enter Tryd.func45, Tryd.ntmps45
    go_wp2
    go_loopg [13] (n + 1) (fun gk i wr => (∃ k nq : Nat, k ≤ n ∧ i = .int .i64 k ∧ wr = w.drewN nq ∧ ∀ u, u < k → F u = G u) ∧ n - (intOf i).toNat < gk)
    case atStart => exact ⟨⟨0, 0, by omega, rfl, rfl, fun u h => by omega⟩, by simp [intOf]⟩
    case round =>
      obtain ⟨⟨k, nq0, hk, rfl, rfl, heq⟩, hgk⟩ := hrel
      simp only [intOf, Int.toNat_natCast] at hgk
      have HE := Lib.hid heq
      clear heq
      by_cases hlt : k < n
      · obtain ⟨g, o, rfl, _, _, hg3⟩ := H1.out.c (by omega)
        obtain ⟨g', o', rfl, _, _, hg3'⟩ := H2.out.c (by omega)
        have hc1 := hg3 k hlt
        have hc2 := hg3' k hlt
        unfold iv at hc1 hc2
        clear hg3 hg3' H1 H2
        by_cases hte : F k = G k
        · rw [hte] at hc1
          have HTE := Lib.hid hte
          clear hte
          go_wp2
          go_quiet (fail)
          go_wp2
          go_roundg (n - (k + 1) + 1)
          case rel => exact ⟨⟨k + 1, _, by omega, by go_num, rfl, fun u hu => by
            rcases Nat.lt_or_ge u k with c | c
            · exact HE.out u c
            · obtain rfl : u = k := by omega
              exact HTE.out⟩, by simp only [intOf]; omega⟩
          case measure => omega
        · have hne : (F k != G k) = true := bne_iff_ne.2 hte
          have HTE := Lib.hid hte
          clear hte
          go_wp2
          go_quiet (fail)
          go_wp2
          go_ret
          have hd : decide (∀ i, i < n → F i = G i) = false := decide_eq_false (fun h => HTE.out (h k hlt))
          exact ⟨by rw [hd]; rfl, nq0 + nq, by rw [World.drewN_drewN]⟩
      · obtain rfl : k = n := by omega
        go_wp2
        go_ret
        have hd : decide (∀ i, i < k → F i = G i) = true := decide_eq_true HE.out
        exact ⟨by rw [hd]; rfl, _, rfl⟩
  · have hne : ((n : Int) != (m : Int)) = true := bne_iff_ne.2 (by omega)
    go_enter Tryd.func45, Tryd.ntmps45
    go_wp2
    go_ret
    have hd : decide (n = m ∧ ∀ i, i < n → F i = G i) = false := decide_eq_false (fun h => hnm h.1)
    exact ⟨by rw [hd]; rfl, 0, rfl⟩

set_option maxRecDepth 100000 in
theorem qHas_any (A : Option Addr) (n c lo hi : Nat) (F : Nat → Int) (v : Int) (w : World) (hn : n < 1073741824) (hA : Rd w lo hi A n (iv F)) :
    Calls Tryd.prog 16 #[.slice A n c, .int .i64 v] w fun e w' => e = .returned (.bool (decide (∃ i, i < n ∧ F i = v))) ∧ ∃ nq, w' = w.drewN nq := by
  have H1 := Lib.hid hA
  clear hA
  go_enter Tryd.func16, Tryd.ntmps16
  go_wp2
  go_loopg [9] (n + 1) (fun gk i wr => (∃ k nq : Nat, k ≤ n ∧ i = .int .i64 k ∧ wr = w.drewN nq ∧ ∀ u, u < k → F u ≠ v) ∧ n - (intOf i).toNat < gk)
  case atStart => exact ⟨⟨0, 0, by omega, rfl, rfl, fun u h => by omega⟩, by simp [intOf]⟩
  case round =>
    obtain ⟨⟨k, nq0, hk, rfl, rfl, heq⟩, hgk⟩ := hrel
    simp only [intOf, Int.toNat_natCast] at hgk
    have HE := Lib.hid heq
    clear heq
    by_cases hlt : k < n
    · obtain ⟨g, o, rfl, _, _, hg3⟩ := H1.out.c (by omega)
      have hc1 := hg3 k hlt
      unfold iv at hc1
      clear hg3 H1
      by_cases hte : F k = v
      · rw [hte] at hc1
        have HTE := Lib.hid hte
        clear hte
        go_wp2
        go_ret
        have hd : decide (∃ i, i < n ∧ F i = v) = true := decide_eq_true ⟨k, hlt, HTE.out⟩
        exact ⟨by rw [hd]; rfl, _, rfl⟩
      · have hne : (F k == v) = false := beq_eq_false_iff_ne.2 hte
        have HTE := Lib.hid hte
        clear hte
        go_wp2
        go_roundg (n - (k + 1) + 1)
        case rel => exact ⟨⟨k + 1, _, by omega, by go_num, rfl, fun u hu => by
          rcases Nat.lt_or_ge u k with c | c
          · exact HE.out u c
          · obtain rfl : u = k := by omega
            exact HTE.out⟩, by simp only [intOf]; omega⟩
        case measure => omega
    · obtain rfl : k = n := by omega
      go_wp2
      go_ret
      have hd : decide (∃ i, i < k ∧ F i = v) = false := decide_eq_false (fun ⟨i, h1, h2⟩ => HE.out i h1 h2)
      exact ⟨by rw [hd]; rfl, _, rfl⟩

set_option maxRecDepth 100000 in
theorem qStands_any (A : Option Addr) (n c lo hi : Nat) (T : Nat → Nat) (B : Option Addr) (m e lo' hi' : Nat) (S : Nat → Nat) (i : Nat) (w : World) (hn : n < 1073741824) (hm : m < 1073741824) (hi1 : i < 1073741824) (h : Rd w lo hi A n (bv T)) (h' : Rd w lo' hi' B m (bv S)) :
    Calls Tryd.prog 41 #[.slice A n c, .slice B m e, .int .i64 (i : Int)] w fun e w' => e = .returned (.bool (decide (stands T n S m i))) ∧ ∃ q, w' = w.drewN q := by
  have H := Lib.hid h; have H' := Lib.hid h'
  clear h h'
  by_cases hin : i + m ≤ n
  · have hi2 : ¬ ((n : Int) - (m : Int)) < (i : Int) := by omega
    go_enter Tryd.func41, Tryd.ntmps41
    go_wp2
    go_loopg [21] (m + 1) (fun gk iv wr => (∃ t q : Nat, t ≤ m ∧ iv = .int .i64 t ∧ wr = w.drewN q ∧ ∀ u, u < t → T (i + u) = S u) ∧ m - (intOf iv).toNat < gk)
    case atStart => exact ⟨⟨0, 0, by omega, rfl, rfl, fun u h => by omega⟩, by simp [intOf]⟩
    case round =>
      obtain ⟨⟨t, q, ht, rfl, rfl, heq⟩, hgk⟩ := hrel
      simp only [intOf, Int.toNat_natCast] at hgk
      have HE := Lib.hid heq
      clear heq
      by_cases hlt : t < m
      · obtain ⟨g, o, rfl, _, _, hg3⟩ := H.out.c (by omega)
        obtain ⟨g', o', rfl, _, _, hg3'⟩ := H'.out.c (by omega)
        have hc1 := hg3 (i + t) (by omega)
        have hc2 := hg3' t hlt
        unfold bv at hc1 hc2
        clear hg3 hg3' H H'
        have hit : (i : Int) + (t : Int) < (n : Int) := by omega
        by_cases hte : T (i + t) = S t
        · rw [hte] at hc1
          have HTE := Lib.hid hte
          clear hte
          go_wp2
          go_quiet (fail)
          go_wp2
          go_roundg (m - (t + 1) + 1)
          case rel => exact ⟨⟨t + 1, _, by omega, by go_num, rfl, fun u hu => by
            rcases Nat.lt_or_ge u t with c | c
            · exact HE.out u c
            · obtain rfl : u = t := by omega
              exact HTE.out⟩, by simp only [intOf]; omega⟩
          case measure => omega
        · have hne : (((T (i + t) : Nat) : Int) != ((S t : Nat) : Int)) = true := bne_iff_ne.2 (fun e => hte (by omega))
          have HTE := Lib.hid hte
          clear hte
          go_wp2
          go_quiet (fail)
          go_wp2
          go_ret
          have hd : decide (stands T n S m i) = false := decide_eq_false (fun h => HTE.out (h.2 t hlt))
          exact ⟨by rw [hd]; rfl, q + nq, by rw [World.drewN_drewN]⟩
      · obtain rfl : t = m := by omega
        go_wp2
        go_ret
        have hd : decide (stands T n S t i) = true := decide_eq_true ⟨hin, HE.out⟩
        exact ⟨by rw [hd]; rfl, q, rfl⟩
  · have hi2 : ((n : Int) - (m : Int)) < (i : Int) := by omega
    go_enter Tryd.func41, Tryd.ntmps41
    go_wp2
    go_ret
    exact ⟨by simp [stands, hin], 0, rfl⟩

set_option maxRecDepth 100000 in
theorem lessBytes_any (A : Option Addr) (n c lo hi : Nat) (T : Nat → Nat) (B : Option Addr) (m e lo' hi' : Nat) (S : Nat → Nat) (w : World) (hn : n < 1073741824) (hm : m < 1073741824) (h : Rd w lo hi A n (bv T)) (h' : Rd w lo' hi' B m (bv S)) :
    Calls Tryd.prog 46 #[.slice A n c, .slice B m e] w fun e w' => e = .returned (.bool (decide (suf T n 0 < suf S m 0))) ∧ ∃ q, w' = w.drewN q := by
  have H := Lib.hid h; have H' := Lib.hid h'
  clear h h'
  go_enter Tryd.func46, Tryd.ntmps46
  go_wp2
  go_loopg [8] (n + 1) (fun gk iv wr => (∃ t q : Nat, t ≤ n ∧ t ≤ m ∧ iv = .int .i64 t ∧ wr = w.drewN q ∧ ∀ u, u < t → T u = S u) ∧ n - (intOf iv).toNat < gk)
  case atStart => exact ⟨⟨0, 0, by omega, by omega, rfl, rfl, fun u h => by omega⟩, by simp [intOf]⟩
  case round =>
    obtain ⟨⟨t, q, ht, htm, rfl, rfl, heq⟩, hgk⟩ := hrel
    simp only [intOf, Int.toNat_natCast] at hgk
    have HE := Lib.hid heq
    clear heq
    by_cases hlt : t < n
    · by_cases hltm : t < m
      · have hne : ((t : Int) == (m : Int)) = false := beq_eq_false_iff_ne.2 (by omega)
        obtain ⟨g, o, rfl, _, _, hg3⟩ := H.out.c (by omega)
        obtain ⟨g', o', rfl, _, _, hg3'⟩ := H'.out.c (by omega)
        have hc1 := hg3 t hlt
        have hc2 := hg3' t hltm
        unfold bv at hc1 hc2
        clear hg3 hg3' H H'
        rcases Nat.lt_trichotomy (T t) (S t) with c1 | c1 | c1
        · have hb1 : decide (S t < T t) = false := decide_eq_false (by omega)
          have hb2 : decide (T t < S t) = true := decide_eq_true (by omega)
          have HTE := Lib.hid c1
          clear c1
          go_wp2
          go_quiet (fail)
          go_wp2
          go_quiet (fail)
          go_wp2
          go_ret
          have hd : decide (suf T n 0 < suf S m 0) = true := decide_eq_true ((lex_lt hlt hltm HE.out (by have := HTE.out; omega)).2 HTE.out)
          exact ⟨by rw [hd]; rfl, _, by simp only [World.drewN_drewN]; rfl⟩
        · rw [c1] at hc1
          have HTE := Lib.hid c1
          clear c1
          have hb1 : decide (S t < S t) = false := decide_eq_false (by omega)
          go_wp2
          go_quiet (fail)
          go_wp2
          go_quiet (fail)
          go_wp2
          go_roundg (n - (t + 1) + 1)
          case rel => exact ⟨⟨t + 1, _, by omega, by omega, by go_num, rfl, fun u hu => by
            rcases Nat.lt_or_ge u t with c | c
            · exact HE.out u c
            · obtain rfl : u = t := by omega
              exact HTE.out⟩, by simp only [intOf]; omega⟩
          case measure => omega
        · have hb1 : decide (S t < T t) = true := decide_eq_true (by omega)
          have HTE := Lib.hid c1
          clear c1
          go_wp2
          go_quiet (fail)
          go_wp2
          go_ret
          have hd : decide (suf T n 0 < suf S m 0) = false := decide_eq_false (fun h => by have h1 := (lex_lt hlt hltm HE.out (by have := HTE.out; omega)).1 h; have := HTE.out; omega)
          exact ⟨by rw [hd]; rfl, _, by simp only [World.drewN_drewN]; rfl⟩
      · obtain rfl : t = m := by omega
        clear H H'
        go_wp2
        go_quiet (fail)
        go_wp2
        go_ret
        have hd : decide (suf T n 0 < suf S t 0) = false := decide_eq_false (lex_end' (by omega) HE.out)
        exact ⟨by rw [hd]; rfl, _, by simp only [World.drewN_drewN]; rfl⟩
    · obtain rfl : t = n := by omega
      have hd : decide (suf T t 0 < suf S m 0) = decide (t < m) := decide_eq_decide.2 (by rw [lex_end htm HE.out])
      have HD := Lib.hid hd
      clear hd H H'
      go_wp2
      go_ret
      exact ⟨by rw [HD.out]; rfl, q, rfl⟩

/-- append(v, s...) of bytes onto a row of the call's own -/
theorem append8own (w : World) (base : Nat) (v : Value) (m : Nat) (xs : List Value) (hown : w.ownsRow base 5 1 v m xs) {lo hi' n : Nat} {A : Option Addr} {T : Nat → Nat} (h : Rd w lo hi' A n (bv T)) (c : Nat) (hmn : m + n < 1073741824) (hbase : base ≤ w.heap.size) :
    ∃ v' w', (∀ ty, (Builtin.append_ #[22, 22] ty #[v, .slice A n c]).run Tryd.prog w = .ok v' w') ∧ w'.ownsRow base 5 1 v' (m + n) (xs ++ (List.range n).map (bv T)) ∧ Below base w w' := by
  obtain ⟨i0, hi, hz0, hz1, hz2⟩ := info_parts info8
  obtain ⟨v', w', h1, h2, h3, h4⟩ := run_append_row (P := Tryd.prog) w base 22 5 i0 _ 1 Tryd.underlying22 hi hz0 hz1 hz2 rfl v m xs hown h c (fun _ _ => rfl) (by simp only [maxLen]; omega) (by omega) hbase
  exact ⟨v', w', h1, h2, (Below.refl _ _).grown h3 hbase (fun k hk => (hown.lt k hk).1)⟩
/-- what a function does that hands out a copy that can grow -/
def CopiesOwn (f : FuncId) : Prop := ∀ (A : Option Addr) (n c lo hi : Nat) (T : Nat → Nat) (w : World), n < 1073741824 → hi ≤ w.heap.size → Rd w lo hi A n (bv T) →
  Calls Tryd.prog f #[.slice A n c] w fun e w' => ∃ v, e = .returned v ∧ w'.ownsRow w.heap.size 5 1 v n ((List.range n).map (bv T)) ∧ Below w.heap.size w w'
theorem copied_own : CopiesOwn 24 := by
  intro A n c lo hi T w hn hh h
  obtain ⟨v', w1, hr, h1, h2⟩ := append8own w w.heap.size (.slice none 0 0) 0 [] (nil_own w _ _) h c (by omega) (Nat.le_refl _)
  rw [Nat.zero_add, List.nil_append] at h1
  have H2 := Lib.hid h2; have H1 := Lib.hid h1
  have HR := Lib.hid hr
  clear h h1 h2 hr
  go_enter Tryd.func24, Tryd.ntmps24
  go_wp2_with (at_builtin; refine wpList_append_run rfl rfl rfl rfl HR.out ?_)
  go_ret
  exact ⟨v', rfl, H1.out, H2.out⟩
theorem qcopy_own : CopiesOwn 21 := by
  intro A n c lo hi T w hn hh h
  obtain ⟨v', w1, hr, h1, h2⟩ := append8own w w.heap.size (.slice none 0 0) 0 [] (nil_own w _ _) h c (by omega) (Nat.le_refl _)
  rw [Nat.zero_add, List.nil_append] at h1
  have H2 := Lib.hid h2; have H1 := Lib.hid h1
  have HR := Lib.hid hr
  clear h h1 h2 hr
  go_enter Tryd.func21, Tryd.ntmps21
  go_wp2_with (at_builtin; refine wpList_append_run rfl rfl rfl rfl HR.out ?_)
  go_ret
  exact ⟨v', rfl, H1.out, H2.out⟩
theorem cat_list {T S : Nat → Nat} {n m : Nat} : ∀ i u, ((List.range n).map (bv T) ++ (List.range m).map (bv S))[i]? = some u → bv (cat T n S) i = u := by
  intro i u hu
  rcases Nat.lt_or_ge i n with c | c
  · rw [List.getElem?_append_left (by simpa using c), List.getElem?_map, List.getElem?_range c] at hu
    have := Option.some.inj hu
    unfold bv cat at *; simp only [if_pos c]; exact this
  · rw [List.getElem?_append_right (by simpa using c), List.length_map, List.length_range, List.getElem?_map] at hu
    rcases Nat.lt_or_ge (i - n) m with c' | c'
    · rw [List.getElem?_range c'] at hu
      have := Option.some.inj hu
      unfold bv cat at *; simp only [if_neg (show ¬ i < n by omega)]; exact this
    · rw [List.getElem?_eq_none (by simpa using c')] at hu; cases hu
set_option maxRecDepth 100000 in
theorem qJoin_any (A : Option Addr) (n c lo hi : Nat) (T : Nat → Nat) (B : Option Addr) (m e lo' hi' : Nat) (S : Nat → Nat) (w : World) (hn : n < 536870912) (hm : m < 536870912) (hh : hi ≤ w.heap.size) (hh' : hi' ≤ w.heap.size) (h : Rd w lo hi A n (bv T)) (h' : Rd w lo' hi' B m (bv S)) :
    Calls Tryd.prog 18 #[.slice A n c, .slice B m e] w fun e w' => ∃ A' c', e = .returned (.slice A' (n + m) c') ∧ n + m ≤ c' ∧ Wr w' w.heap.size w'.heap.size A' (n + m) (bv (cat T n S)) ∧ Below w.heap.size w w' := by
  have H := Lib.hid h; have H' := Lib.hid h'
  clear h h'
  go_enter Tryd.func18, Tryd.ntmps18
  go_wp2_with fail
  refine (qcopy_own A n c lo hi T w (by omega) hh H.out).mono ?_
  rintro _ w1 ⟨v1, rfl, ho, hb⟩
  obtain ⟨v', w2, hr, h1, h2⟩ := append8own w1 w.heap.size v1 n _ ho (H'.out.below hb hh') e (by omega) hb.size
  obtain ⟨A', c', rfl, h3, h4⟩ := Wr.of_own h1 cat_list
  have HR := Lib.hid hr; have H3 := Lib.hid h3; have H4 := Lib.hid h4; have HB := Lib.hid (hb.trans h2)
  clear ho hb hr h1 h2 h3 h4
  go_wp2_with (at_builtin; refine wpList_append_run rfl rfl rfl rfl HR.out ?_)
  go_ret
  exact ⟨A', c', rfl, H3.out, H4.out, HB.out⟩
end Go.Proofs.YtclebgpnfinppaaDoor
