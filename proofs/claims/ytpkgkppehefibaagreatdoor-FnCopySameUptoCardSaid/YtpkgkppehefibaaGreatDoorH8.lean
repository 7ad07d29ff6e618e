/- The laws' helpers: sameBytes, sameBools, standsAt. -/
import Derived.Test.YtpkgkppehefibaaGreatDoorH2
namespace Go.Proofs.YtpkgkppehefibaaGreatDoor
open Go.RowKit Sa

set_option maxRecDepth 100000 in
theorem sameBytes_any (A B : Option Addr) (n c m d lo hi lo' hi' : Nat) (F G : Nat → Nat) (w : World) (hn : n < 1073741824) (hm : m < 1073741824) (hA : Rd w lo hi A n (bv F)) (hB : Rd w lo' hi' B m (bv G)) :
    Calls Tryz.prog 23 #[.slice A n c, .slice B m d] w fun e w' => e = .returned (.bool (decide (n = m ∧ ∀ i, i < n → F i = G i))) ∧ ∃ nq, w' = w.drewN nq := by
  have H1 := Lib.hid hA; have H2 := Lib.hid hB
  clear hA hB
  by_cases hnm : n = m
  · subst hnm
    rw [show decide (n = n ∧ ∀ i, i < n → F i = G i) = decide (∀ i, i < n → F i = G i) from by simp]
    go_enter Tryz.func23, Tryz.ntmps23
    go_wp2
    go_loopg [13] (n + 1) (fun gk i wr => (∃ k nq : Nat, k ≤ n ∧ i = .int .i64 k ∧ wr = w.drewN nq ∧ ∀ u, u < k → F u = G u) ∧ n - (intOf i).toNat < gk)
    case atStart => exact ⟨⟨0, 0, by omega, rfl, rfl, fun u h => by omega⟩, by simp [intOf]⟩
    case round =>
      obtain ⟨⟨k, nq0, hk, rfl, rfl, heq⟩, hgk⟩ := hrel
      simp only [intOf, Int.toNat_natCast] at hgk
      have HE := Lib.hid heq
      clear heq
      by_cases hlt : k < n
      · obtain ⟨g, o, rfl, _, _, hg3⟩ := H1.out.c (by omega)
        obtain ⟨g', o', rfl, _, _, hg3'⟩ := H2.out.c (by omega)
        have hc1 := hg3 k hlt
        have hc2 := hg3' k hlt
        unfold bv at hc1 hc2
        clear hg3 hg3' H1 H2
        by_cases hte : F k = G k
        · rw [hte] at hc1
          have HTE := Lib.hid hte
          clear hte
          go_wp2
          go_quiet (fail)
          go_wp2
          go_roundg (n - (k + 1) + 1)
          case rel => exact ⟨⟨k + 1, _, by omega, by go_num, rfl, fun u hu => by
            rcases Nat.lt_or_ge u k with c | c
            · exact HE.out u c
            · obtain rfl : u = k := by omega
              exact HTE.out⟩, by simp only [intOf]; omega⟩
          case measure => omega
        · have hne : (((F k : Nat) : Int) != ((G k : Nat) : Int)) = true := bne_iff_ne.2 (fun e => hte (by omega))
          have HTE := Lib.hid hte
          clear hte
          go_wp2
          go_quiet (fail)
          go_wp2
          go_ret
          have hd : decide (∀ i, i < n → F i = G i) = false := decide_eq_false (fun h => HTE.out (h k hlt))
          exact ⟨by rw [hd]; rfl, nq0 + nq, by rw [World.drewN_drewN]⟩
      · obtain rfl : k = n := by omega
        go_wp2
        go_ret
        have hd : decide (∀ i, i < k → F i = G i) = true := decide_eq_true HE.out
        exact ⟨by rw [hd]; rfl, _, rfl⟩
  · have hne : ((n : Int) != (m : Int)) = true := bne_iff_ne.2 (by omega)
    go_enter Tryz.func23, Tryz.ntmps23
    go_wp2
    go_ret
    have hd : decide (n = m ∧ ∀ i, i < n → F i = G i) = false := decide_eq_false (fun h => hnm h.1)
    exact ⟨by rw [hd]; rfl, 0, rfl⟩

set_option maxRecDepth 100000 in
theorem sameBools_any (A B : Option Addr) (n c m d lo hi lo' hi' : Nat) (F G : Nat → Bool) (w : World) (hn : n < 1073741824) (hm : m < 1073741824) (hA : Rd w lo hi A n (lv F)) (hB : Rd w lo' hi' B m (lv G)) :
    Calls Tryz.prog 21 #[.slice A n c, .slice B m d] w fun e w' => e = .returned (.bool (decide (n = m ∧ ∀ i, i < n → F i = G i))) ∧ ∃ nq, w' = w.drewN nq := by
  have H1 := Lib.hid hA; have H2 := Lib.hid hB
  clear hA hB
  by_cases hnm : n = m
  · subst hnm
    rw [show decide (n = n ∧ ∀ i, i < n → F i = G i) = decide (∀ i, i < n → F i = G i) from by simp]
    go_enter Tryz.func21, Tryz.ntmps21
    go_wp2
    go_loopg [13] (n + 1) (fun gk i wr => (∃ k nq : Nat, k ≤ n ∧ i = .int .i64 k ∧ wr = w.drewN nq ∧ ∀ u, u < k → F u = G u) ∧ n - (intOf i).toNat < gk)
    case atStart => exact ⟨⟨0, 0, by omega, rfl, rfl, fun u h => by omega⟩, by simp [intOf]⟩
    case round =>
      obtain ⟨⟨k, nq0, hk, rfl, rfl, heq⟩, hgk⟩ := hrel
      simp only [intOf, Int.toNat_natCast] at hgk
      have HE := Lib.hid heq
      clear heq
      by_cases hlt : k < n
      · obtain ⟨g, o, rfl, _, _, hg3⟩ := H1.out.c (by omega)
        obtain ⟨g', o', rfl, _, _, hg3'⟩ := H2.out.c (by omega)
        have hc1 := hg3 k hlt
        have hc2 := hg3' k hlt
        unfold lv at hc1 hc2
        clear hg3 hg3' H1 H2
        by_cases hte : F k = G k
        · rw [hte] at hc1
          have HTE := Lib.hid hte
          clear hte
          go_wp2
          go_quiet (fail)
          go_wp2
          go_roundg (n - (k + 1) + 1)
          case rel => exact ⟨⟨k + 1, _, by omega, by go_num, rfl, fun u hu => by
            rcases Nat.lt_or_ge u k with c | c
            · exact HE.out u c
            · obtain rfl : u = k := by omega
              exact HTE.out⟩, by simp only [intOf]; omega⟩
          case measure => omega
        · have hne : (F k == G k) = false := beq_eq_false_iff_ne.2 hte
          have HTE := Lib.hid hte
          clear hte
          go_wp2
          go_quiet (fail)
          go_wp2
          go_ret
          have hd : decide (∀ i, i < n → F i = G i) = false := decide_eq_false (fun h => HTE.out (h k hlt))
          exact ⟨by rw [hd]; rfl, nq0 + nq, by rw [World.drewN_drewN]⟩
      · obtain rfl : k = n := by omega
        go_wp2
        go_ret
        have hd : decide (∀ i, i < k → F i = G i) = true := decide_eq_true HE.out
        exact ⟨by rw [hd]; rfl, _, rfl⟩
  · have hne : ((n : Int) != (m : Int)) = true := bne_iff_ne.2 (by omega)
    go_enter Tryz.func21, Tryz.ntmps21
    go_wp2
    go_ret
    have hd : decide (n = m ∧ ∀ i, i < n → F i = G i) = false := decide_eq_false (fun h => hnm h.1)
    exact ⟨by rw [hd]; rfl, 0, rfl⟩

set_option maxRecDepth 100000 in
theorem standsAt_any (A : Option Addr) (n c lo hi : Nat) (T : Nat → Nat) (B : Option Addr) (m e lo' hi' : Nat) (S : Nat → Nat) (i : Nat) (w : World) (hn : n < 1073741824) (hm : m < 1073741824) (hi1 : i < 1073741824) (h : Rd w lo hi A n (bv T)) (h' : Rd w lo' hi' B m (bv S)) :
    Calls Tryz.prog 25 #[.slice A n c, .slice B m e, .int .i64 (i : Int)] w fun e w' => e = .returned (.bool (decide (stands T n S m i))) ∧ ∃ q, w' = w.drewN q := by
  have H := Lib.hid h; have H' := Lib.hid h'
  clear h h'
  by_cases hin : i + m ≤ n
  · have hi2 : ¬ (n : Int) < (i : Int) := by omega
    have hi3 : ¬ ((n : Int) - (i : Int)) < (m : Int) := by omega
    go_enter Tryz.func25, Tryz.ntmps25
    go_wp2
    go_loopg [28] (m + 1) (fun gk iv wr => (∃ t q : Nat, t ≤ m ∧ iv = .int .i64 t ∧ wr = w.drewN q ∧ ∀ u, u < t → T (i + u) = S u) ∧ m - (intOf iv).toNat < gk)
    case atStart => exact ⟨⟨0, 0, by omega, rfl, rfl, fun u h => by omega⟩, by simp [intOf]⟩
    case round =>
      obtain ⟨⟨t, q, ht, rfl, rfl, heq⟩, hgk⟩ := hrel
      simp only [intOf, Int.toNat_natCast] at hgk
      have HE := Lib.hid heq
      clear heq
      by_cases hlt : t < m
      · obtain ⟨g, o, rfl, _, _, hg3⟩ := H.out.c (by omega)
        obtain ⟨g', o', rfl, _, _, hg3'⟩ := H'.out.c (by omega)
        have hc1 := hg3 (i + t) (by omega)
        have hc2 := hg3' t hlt
        unfold bv at hc1 hc2
        clear hg3 hg3' H H'
        have hit : (i : Int) + (t : Int) < (n : Int) := by omega
        by_cases hte : T (i + t) = S t
        · rw [hte] at hc1
          have HTE := Lib.hid hte
          clear hte
          go_wp2
          go_roundg (m - (t + 1) + 1)
          case rel => exact ⟨⟨t + 1, _, by omega, by go_num, rfl, fun u hu => by
            rcases Nat.lt_or_ge u t with c | c
            · exact HE.out u c
            · obtain rfl : u = t := by omega
              exact HTE.out⟩, by simp only [intOf]; omega⟩
          case measure => omega
        · have hne : (((T (i + t) : Nat) : Int) != ((S t : Nat) : Int)) = true := bne_iff_ne.2 (fun e => hte (by omega))
          have HTE := Lib.hid hte
          clear hte
          go_wp2
          go_ret
          have hd : decide (stands T n S m i) = false := decide_eq_false (fun h => HTE.out (h.2 t hlt))
          exact ⟨by rw [hd]; rfl, q, rfl⟩
      · obtain rfl : t = m := by omega
        go_wp2
        go_ret
        have hd : decide (stands T n S t i) = true := decide_eq_true ⟨hin, HE.out⟩
        exact ⟨by rw [hd]; rfl, q, rfl⟩
  · by_cases hni : n < i
    · have hi2 : (n : Int) < (i : Int) := by omega
      go_enter Tryz.func25, Tryz.ntmps25
      go_wp2
      go_ret
      exact ⟨by simp [stands, hin], 0, rfl⟩
    · have hi2 : ¬ (n : Int) < (i : Int) := by omega
      have hi3 : ((n : Int) - (i : Int)) < (m : Int) := by omega
      go_enter Tryz.func25, Tryz.ntmps25
      go_wp2
      go_ret
      exact ⟨by simp [stands, hin], 0, rfl⟩

section
variable {A : Option Addr} {n c : Nat} {B : Option Addr} {m e : Nat} {w : World}
theorem sameBytes0 {T S : Nat → Nat} (h : Bs w A n c T) (h' : Bs w B m e S) :
    Calls Tryz.prog 23 #[.slice A n c, .slice B m e] w fun e w' => e = .returned (.bool (decide (n = m ∧ ∀ i, i < n → T i = S i))) ∧ Le w w' :=
  (sameBytes_any A B n c m e 0 _ 0 _ T S w h.sm h'.sm h.rd h'.rd).mono fun _ _ ⟨h1, h2⟩ => ⟨h1, Le.of h2⟩
theorem sameBools0 {F G : Nat → Bool} (h : Ls w A n c F) (h' : Ls w B m e G) :
    Calls Tryz.prog 21 #[.slice A n c, .slice B m e] w fun e w' => e = .returned (.bool (decide (n = m ∧ ∀ i, i < n → F i = G i))) ∧ Le w w' :=
  (sameBools_any A B n c m e 0 _ 0 _ F G w h.sm h'.sm h.rd h'.rd).mono fun _ _ ⟨h1, h2⟩ => ⟨h1, Le.of h2⟩
theorem standsAt0 {T S : Nat → Nat} (h : Bs w A n c T) (h' : Bs w B m e S) (i : Nat) (hi : i < 1073741824) :
    Calls Tryz.prog 25 #[.slice A n c, .slice B m e, .int .i64 (i : Int)] w fun e w' => e = .returned (.bool (decide (stands T n S m i))) ∧ Le w w' :=
  (standsAt_any A n c 0 _ T B m e 0 _ S i w h.sm h'.sm hi h.rd h'.rd).mono fun _ _ ⟨h1, h2⟩ => ⟨h1, Le.of h2⟩
end
end Go.Proofs.YtpkgkppehefibaaGreatDoor
