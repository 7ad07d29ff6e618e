/- spec.occurs, Occurrences, IndexCount. -/
import Derived.Test.YtpkgkppehefibaaGreatDoorE7
namespace Go.Proofs.YtpkgkppehefibaaGreatDoor
open Go.RowKit Sa

set_option maxRecDepth 100000 in
theorem occurs_any (A : Option Addr) (n c lo hi : Nat) (T : Nat → Nat) (B : Option Addr) (m e lo' hi' : Nat) (S : Nat → Nat) (i : Nat) (w : World) (hn : n < 1073741824) (hm : m < 1073741824) (hi1 : i < 1073741824) (h : Rd w lo hi A n (bv T)) (h' : Rd w lo' hi' B m (bv S)) :
    Calls Tryz.prog 46 #[.slice A n c, .slice B m e, .int .i64 (i : Int)] w fun e w' => e = .returned (.bool (decide (stands T n S m i))) ∧ ∃ q, w' = w.drewN q := by
  have H := Lib.hid h; have H' := Lib.hid h'
  clear h h'
  by_cases hin : i + m ≤ n
  · have hi2 : ¬ n < i + m := by omega
    go_enter Tryz.func46, Tryz.ntmps46
    go_wp2
    go_loopg [22] (m + 1) (fun gk iv wr => (∃ t q : Nat, t ≤ m ∧ iv = .int .i64 t ∧ wr = w.drewN q ∧ ∀ u, u < t → T (i + u) = S u) ∧ m - (intOf iv).toNat < gk)
    case atStart => exact ⟨⟨0, 0, by omega, rfl, rfl, fun u h => by omega⟩, by simp [intOf]⟩
    case round =>
      obtain ⟨⟨t, q, ht, rfl, rfl, heq⟩, hgk⟩ := hrel
      simp only [intOf, Int.toNat_natCast] at hgk
      have HE := Lib.hid heq
      clear heq
      by_cases hlt : t < m
      · obtain ⟨g, o, rfl, _, _, hg3⟩ := H.out.c (by omega)
        obtain ⟨g', o', rfl, _, _, hg3'⟩ := H'.out.c (by omega)
        have hc1 := hg3 (i + t) (by omega)
        have hc2 := hg3' t hlt
        unfold bv at hc1 hc2
        clear hg3 hg3' H H'
        by_cases hte : T (i + t) = S t
        · rw [hte] at hc1
          have HTE := Lib.hid hte
          clear hte
          go_wp2
          go_roundg (m - (t + 1) + 1)
          case rel => exact ⟨⟨t + 1, q, by omega, by go_num, rfl, fun u hu => by
            rcases Nat.lt_or_ge u t with c | c
            · exact HE.out u c
            · obtain rfl : u = t := by omega
              exact HTE.out⟩, by simp only [intOf]; omega⟩
          case measure => omega
        · have hne : ((T (i + t) : Nat) : Int) ≠ ((S t : Nat) : Int) := fun e => hte (by omega)
          have HTE := Lib.hid hte
          clear hte
          go_wp2
          go_ret
          have hd : decide (stands T n S m i) = false := decide_eq_false (fun h => HTE.out (h.2 t hlt))
          exact ⟨by rw [hd]; rfl, q, rfl⟩
      · obtain rfl : t = m := by omega
        go_wp2
        go_ret
        have hd : decide (stands T n S t i) = true := decide_eq_true ⟨hin, HE.out⟩
        exact ⟨by rw [hd]; rfl, q, rfl⟩
  · have hi2 : n < i + m := by omega
    go_enter Tryz.func46, Tryz.ntmps46
    go_wp2
    go_ret
    exact ⟨by simp [stands, hin], 0, rfl⟩

/-- append(out, t) onto a row of the call's own -/
theorem appendOneI (w : World) (base : Nat) (v : Value) (m : Nat) (xs : List Value) (hown : w.ownsRow base 3 1 v m xs) (hm : m < 1073741824) (hbase : base ≤ w.heap.size) (t : Int) :
    ∃ v' w', (∀ ty, (Builtin.append_ #[37, 37] ty #[v, .slice (some ⟨w.heap.size, 0, none⟩) 1 1]).run Tryz.prog (w.alloc (.cells #[.int .i64 t] 3)) = .ok v' w') ∧
      w'.ownsRow base 3 1 v' (m + 1) (xs ++ [.int .i64 t]) ∧ Below base w w' := by
  obtain ⟨i0, hi, hz0, hz1, hz2⟩ := info_parts infoInt
  have hrd : Rd (w.alloc (.cells #[.int .i64 t] 3)) 0 (w.heap.size + 1) (some ⟨w.heap.size, 0, none⟩) 1 (fun _ => .int .i64 t) := ⟨fun _ => ⟨_, 0, rfl, Nat.zero_le _, by omega, fun i hi => by
    obtain rfl : i = 0 := by omega
    rw [World.cell?_alloc_at _ _ _ _ rfl]; rfl⟩⟩
  obtain ⟨v', w', h1, h2, h3, h4⟩ := run_append_row (P := Tryz.prog) (w.alloc (.cells #[.int .i64 t] 3)) base 37 3 i0 _ 8 Tryz.underlying37 hi hz0 hz1 hz2 rfl v m xs (hown.alloc _) hrd 1 (fun _ _ => rfl) (by simp only [maxLen]; omega) (by omega) (by simp; omega)
  exact ⟨v', w', h1, h2, ((Below.refl _ _).alloc hbase _).grown h3 (by simp; omega) (fun k hk => (hown.lt k hk).1)⟩

/-- so many of the first i places are places of s -/
def occ (T : Nat → Nat) (n : Nat) (S : Nat → Nat) (m i : Nat) : Nat := cn (fun p => decide (0 < m ∧ stands T n S m p)) i

set_option maxRecDepth 100000 in
theorem occurrences_any (A : Option Addr) (n c lo hi : Nat) (T : Nat → Nat) (B : Option Addr) (m e lo' hi' : Nat) (S : Nat → Nat) (w : World) (hn : n < 1073741824) (hm : m < 1073741824) (hh : hi ≤ w.heap.size) (hh' : hi' ≤ w.heap.size) (h : Rd w lo hi A n (bv T)) (h' : Rd w lo' hi' B m (bv S)) :
    Calls Tryz.prog 39 #[.slice A n c, .slice B m e] w fun e w' => ∃ A' c', e = .returned (.slice A' (occ T n S m n) c') ∧ Below w.heap.size w w' := by
  have H := Lib.hid h; have H' := Lib.hid h'
  clear h h'
  go_enter Tryz.func39, Tryz.ntmps39
  go_wp2
  go_loopg [5, 9] (n + 1) (fun gk ov iv wr => (∃ (t : Nat) (xs : List Value), t ≤ n ∧ iv = .int .i64 t ∧ wr.ownsRow w.heap.size 3 1 ov (occ T n S m t) xs ∧ Below w.heap.size w wr) ∧ n - (intOf iv).toNat < gk)
  case atStart => exact ⟨⟨0, [], by omega, rfl, nil_own w _ _, Below.refl _ _⟩, by simp [intOf]⟩
  case round =>
    obtain ⟨⟨t, xs, ht, rfl, hown, hbl⟩, hgk⟩ := hrel
    simp only [intOf, Int.toNat_natCast] at hgk
    have HO := Lib.hid hown; have HB := Lib.hid hbl
    clear hown hbl
    by_cases hlt : t < n
    · by_cases hm0 : 0 < m
      · have hm1 : (0 : Int) < (m : Int) := by omega
        go_wp2_with fail
        refine (occurs_any A n c lo hi T B m e lo' hi' S t _ hn hm (by omega) (H.out.below HB.out hh) (H'.out.below HB.out hh')).mono ?_
        rintro _ w1 ⟨rfl, q, rfl⟩
        by_cases hst : stands T n S m t
        · rw [decide_eq_true hst]
          have hoc : occ T n S m (t + 1) = occ T n S m t + 1 := by
            unfold occ; simp only [cn]; simp [hm0, hst]
          have HOC := Lib.hid hoc
          clear hst hoc
          have hol : occ T n S m t ≤ t := cn_le _ _
          obtain ⟨w2, hw2⟩ : ∃ w2, w2 = wr.drewN q := ⟨_, rfl⟩
          have HO2 : Hid (w2.ownsRow w.heap.size 3 1 u5 (occ T n S m t) xs) := by rw [hw2]; exact HO.out
          have HB2 : Hid (Below w.heap.size w w2) := by rw [hw2]; exact HB.out.trans ⟨rfl, rfl, rfl, Nat.le_refl _, fun _ _ => rfl⟩
          rw [← hw2]
          clear hw2 HO HB
          obtain ⟨v', w3, hr, hown3, hb3⟩ := appendOneI w2 w.heap.size u5 _ xs HO2.out (by omega) HB2.out.size t
          have HR := Lib.hid hr; have HO3 := Lib.hid hown3; have HB3 := Lib.hid hb3
          clear hr hown3 hb3
          go_wp2_with (at_builtin; refine wpList_append_run rfl rfl rfl rfl HR.out ?_)
          go_roundg (n - (t + 1) + 1)
          case rel => exact ⟨⟨t + 1, _, by omega, by go_num, by rw [HOC.out]; exact HO3.out, HB2.out.trans HB3.out⟩, by simp only [intOf]; omega⟩
          case measure => omega
        · rw [decide_eq_false hst]
          have hoc : occ T n S m (t + 1) = occ T n S m t := by
            unfold occ; simp only [cn]; simp [hm0, hst]
          have HOC := Lib.hid hoc
          clear hst hoc
          go_wp2
          go_roundg (n - (t + 1) + 1)
          case rel => exact ⟨⟨t + 1, xs, by omega, by go_num, by rw [HOC.out]; exact HO.out, HB.out.trans ⟨rfl, rfl, rfl, Nat.le_refl _, fun _ _ => rfl⟩⟩, by simp only [intOf]; omega⟩
          case measure => omega
      · have hoc : occ T n S m (t + 1) = occ T n S m t := by
          unfold occ; simp only [cn]; simp [hm0]
        have HOC := Lib.hid hoc
        clear hoc
        have hm1 : ¬ (0 : Int) < (m : Int) := by omega
        go_wp2
        go_roundg (n - (t + 1) + 1)
        case rel => exact ⟨⟨t + 1, xs, by omega, by go_num, by rw [HOC.out]; exact HO.out, HB.out⟩, by simp only [intOf]; omega⟩
        case measure => omega
    · obtain rfl : t = n := by omega
      go_wp2
      go_ret
      rcases HO.out.2 with ⟨e1, e2⟩ | ⟨g, cap, cur, e1, _⟩
      · exact ⟨none, 0, by rw [e2]; exact congrArg Ending.returned e1, HB.out⟩
      · exact ⟨_, cap, congrArg Ending.returned e1, HB.out⟩

/-- THE PLAIN LAW: as many are found as occur -/
theorem Found.count {T S d : Nat → Nat} {n m r q k : Nat} {N : Int} (hs : IsSA T n d) (h : Found T n S m d N r q k) : occ T n S m n = q := by
  have hl := h.le
  have h1 := pigeon (P := fun p => decide (0 < m ∧ stands T n S m p)) (n := n) (a := r) (b := r + q) d (fun i j h1 h2 h3 e => by have := hs.inj (by omega) (by omega) e; omega)
    (fun i h1 h2 => ⟨hs.lt i (by omega), decide_eq_true ((h.iff i (by omega)).2 ⟨h1, h2⟩)⟩)
  have h2 := pigeon_onto (P := fun p => decide (0 < m ∧ stands T n S m p)) (n := n) (a := r) (b := r + q) d (fun x hx hp => by
    obtain ⟨i, hi, rfl⟩ := hs.onto x hx
    obtain ⟨h1, h2⟩ := (h.iff i hi).1 (of_decide_eq_true hp)
    exact ⟨i, h1, h2, rfl⟩)
  unfold occ
  omega
end Go.Proofs.YtpkgkppehefibaaGreatDoor
