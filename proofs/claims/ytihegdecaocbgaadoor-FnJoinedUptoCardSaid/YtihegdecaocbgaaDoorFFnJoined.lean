/- The law FnJoined: its walk. Printed by walks.py. -/
import Derived.Test.YtihegdecaocbgaaDoorL3
namespace Go.Proofs.YtihegdecaocbgaaDoor
open Go.RowKit Sa

set_option maxHeartbeats 1000000 in
set_option maxRecDepth 100000 in
theorem fnJoined_walk {A0 : Option Addr} {n0 c0 : Nat} {T0 : Nat → Nat} {A1 : Option Addr} {n1 c1 : Nat} {T1 : Nat → Nat} {A2 : Option Addr} {n2 c2 : Nat} {T2 : Nat → Nat} (w : World) (h0 : Bs w A0 n0 c0 T0) (h1 : Bs w A1 n1 c1 T1) (h2 : Bs w A2 n2 c2 T2) (hg : MaxOk w) (_hsz : n0 + n1 + n2 < 1048576) :
    Calls Tryd.prog 4 #[.slice A0 n0 c0, .slice A1 n1 c1, .slice A2 n2 c2] w fun e w' => e = .returned (.bool true) ∧ Le w w' := by
  have hs0 := h0.sm
  have H0 := Lib.hid h0
  clear h0
  have hs1 := h1.sm
  have H1 := Lib.hid h1
  clear h1
  have hs2 := h2.sm
  have H2 := Lib.hid h2
  clear h2
  have HG := Lib.hid hg
  have HL := Lib.hid (Le.refl w)
  clear hg
  by_cases hm : n1 = 0
  · subst hm
    go_enter Tryd.func4, Tryd.ntmps4
    go_wp2
    go_ret
    exact ⟨rfl, HL.out⟩
  · have hm1 : ((n1 : Int) == 0) = false := beq_eq_false_iff_ne.2 (by omega)
    by_cases hk : n2 = 0
    · subst hk
      go_enter Tryd.func4, Tryd.ntmps4
      go_wp2
      go_ret
      exact ⟨rfl, HL.out⟩
    · have hk1 : ((n2 : Int) == 0) = false := beq_eq_false_iff_ne.2 (by omega)
      go_enter Tryd.func4, Tryd.ntmps4
      go_wp2_with fail
      refine (marks0 H0.out H1.out HG.out).mono ?_
      rintro _ w1 ⟨AM1, rfl, hb, hl⟩
      replace H0 := Lib.hid (H0.out.le hl)
      replace H1 := Lib.hid (H1.out.le hl)
      replace H2 := Lib.hid (H2.out.le hl)
      replace HG := Lib.hid (HG.out.le hl)
      replace HL := Lib.hid (HL.out.trans hl)
      have M1 := Lib.hid hb
      clear hl hb
      go_wp2_with fail
      refine (marks0 H0.out H2.out HG.out).mono ?_
      rintro _ w2 ⟨AM2, rfl, hb, hl⟩
      replace H0 := Lib.hid (H0.out.le hl)
      replace H1 := Lib.hid (H1.out.le hl)
      replace H2 := Lib.hid (H2.out.le hl)
      replace M1 := Lib.hid (M1.out.le hl)
      replace HG := Lib.hid (HG.out.le hl)
      replace HL := Lib.hid (HL.out.trans hl)
      have M2 := Lib.hid hb
      clear hl hb
      go_wp2_with fail
      refine (qJoin0 H1.out H2.out (by omega)).mono ?_
      rintro _ w3 ⟨AJ, cJ, rfl, hb, hl⟩
      replace H0 := Lib.hid (H0.out.le hl)
      replace H1 := Lib.hid (H1.out.le hl)
      replace H2 := Lib.hid (H2.out.le hl)
      replace M1 := Lib.hid (M1.out.le hl)
      replace M2 := Lib.hid (M2.out.le hl)
      replace HG := Lib.hid (HG.out.le hl)
      replace HL := Lib.hid (HL.out.trans hl)
      have J := Lib.hid hb
      clear hl hb
      go_wp2_with fail
      refine (marks0 H0.out J.out HG.out).mono ?_
      rintro _ w4 ⟨AM3, rfl, hb, hl⟩
      replace H0 := Lib.hid (H0.out.le hl)
      replace H1 := Lib.hid (H1.out.le hl)
      replace H2 := Lib.hid (H2.out.le hl)
      replace M1 := Lib.hid (M1.out.le hl)
      replace M2 := Lib.hid (M2.out.le hl)
      replace J := Lib.hid (J.out.le hl)
      replace HG := Lib.hid (HG.out.le hl)
      replace HL := Lib.hid (HL.out.trans hl)
      have M3 := Lib.hid hb
      clear hl hb
      go_wp2_with fail
      go_loopg [32] (n0 + 1) (fun gk iv wr => (∃ t : Nat, t ≤ n0 ∧ iv = .int .i64 (t : Int) ∧ Le w4 wr) ∧ n0 - (intOf iv).toNat < gk)
      case atStart => exact ⟨⟨0, by omega, rfl, Le.refl _⟩, by simp only [intOf]; omega⟩
      case round =>
        obtain ⟨⟨t, ht, rfl, hl⟩, hgk⟩ := hrel
        simp only [intOf, Int.toNat_natCast] at hgk
        replace H0 := Lib.hid (H0.out.le hl)
        replace H1 := Lib.hid (H1.out.le hl)
        replace H2 := Lib.hid (H2.out.le hl)
        replace M1 := Lib.hid (M1.out.le hl)
        replace M2 := Lib.hid (M2.out.le hl)
        replace J := Lib.hid (J.out.le hl)
        replace M3 := Lib.hid (M3.out.le hl)
        replace HG := Lib.hid (HG.out.le hl)
        replace HL := Lib.hid (HL.out.trans hl)
        have HK1 := Lib.hid hl
        clear hl
        by_cases hlt : t < n0
        · have hlg := mrk_joined (T := T0) (n := n0) (S := T1) (m := n1) (U := T2) (k := n2) (t := t) (by omega) (by omega)
          rw [Int.natCast_add] at hlg
          have HLG := Lib.hid hlg
          clear hlg
          go_wp2_with fail
          refine (qMark0 M3.out (t : Int) (by omega) (by omega)).mono ?_
          rintro _ w5 ⟨rfl, hl⟩
          replace H0 := Lib.hid (H0.out.le hl)
          replace H1 := Lib.hid (H1.out.le hl)
          replace H2 := Lib.hid (H2.out.le hl)
          replace M1 := Lib.hid (M1.out.le hl)
          replace M2 := Lib.hid (M2.out.le hl)
          replace J := Lib.hid (J.out.le hl)
          replace M3 := Lib.hid (M3.out.le hl)
          replace HG := Lib.hid (HG.out.le hl)
          replace HL := Lib.hid (HL.out.trans hl)
          replace HK1 := Lib.hid (HK1.out.trans hl)
          clear hl
          rw [qm_in hlt, HLG.out]
          go_wp2_with fail
          refine (qMark0 M1.out (t : Int) (by omega) (by omega)).mono ?_
          rintro _ w6 ⟨rfl, hl⟩
          replace H0 := Lib.hid (H0.out.le hl)
          replace H1 := Lib.hid (H1.out.le hl)
          replace H2 := Lib.hid (H2.out.le hl)
          replace M1 := Lib.hid (M1.out.le hl)
          replace M2 := Lib.hid (M2.out.le hl)
          replace J := Lib.hid (J.out.le hl)
          replace M3 := Lib.hid (M3.out.le hl)
          replace HG := Lib.hid (HG.out.le hl)
          replace HL := Lib.hid (HL.out.trans hl)
          replace HK1 := Lib.hid (HK1.out.trans hl)
          clear hl
          rw [qm_in hlt]
          cases mrk T0 n0 T1 n1 t with
          | false =>
            simp only [Bool.false_and]
            go_wp2
            go_roundg (n0 - (t + 1) + 1)
            case rel => exact ⟨⟨t + 1, by omega, by go_num, HK1.out⟩, by simp only [intOf]; omega⟩
            case measure => omega
          | true =>
            simp only [Bool.true_and]
            go_wp2_with fail
            refine (qMark0 M2.out ((t : Int) + (n1 : Int)) (by omega) (by omega)).mono ?_
            rintro _ w7 ⟨rfl, hl⟩
            replace H0 := Lib.hid (H0.out.le hl)
            replace H1 := Lib.hid (H1.out.le hl)
            replace H2 := Lib.hid (H2.out.le hl)
            replace M1 := Lib.hid (M1.out.le hl)
            replace M2 := Lib.hid (M2.out.le hl)
            replace J := Lib.hid (J.out.le hl)
            replace M3 := Lib.hid (M3.out.le hl)
            replace HG := Lib.hid (HG.out.le hl)
            replace HL := Lib.hid (HL.out.trans hl)
            replace HK1 := Lib.hid (HK1.out.trans hl)
            clear hl
            generalize qm n0 (mrk T0 n0 T2 n2) ((t : Int) + (n1 : Int)) = b
            cases b
            · go_wp2
              go_roundg (n0 - (t + 1) + 1)
              case rel => exact ⟨⟨t + 1, by omega, by go_num, HK1.out⟩, by simp only [intOf]; omega⟩
              case measure => omega
            · go_wp2
              go_roundg (n0 - (t + 1) + 1)
              case rel => exact ⟨⟨t + 1, by omega, by go_num, HK1.out⟩, by simp only [intOf]; omega⟩
              case measure => omega
        · obtain rfl : t = n0 := by omega
          go_wp2
          go_ret
          exact ⟨rfl, HL.out⟩
end Go.Proofs.YtihegdecaocbgaaDoor
