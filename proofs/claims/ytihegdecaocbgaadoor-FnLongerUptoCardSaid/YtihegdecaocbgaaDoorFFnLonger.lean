/- The law FnLonger: its walk. Printed by walks.py. -/
import Derived.Test.YtihegdecaocbgaaDoorL3
namespace Go.Proofs.YtihegdecaocbgaaDoor
open Go.RowKit Sa

set_option maxHeartbeats 1000000 in
set_option maxRecDepth 100000 in
theorem fnLonger_walk {A0 : Option Addr} {n0 c0 : Nat} {T0 : Nat → Nat} {A1 : Option Addr} {n1 c1 : Nat} {T1 : Nat → Nat} (b2 : Nat) (w : World) (h0 : Bs w A0 n0 c0 T0) (h1 : Bs w A1 n1 c1 T1) (h2 : b2 < 256) (hg : MaxOk w) (_hsz : n0 + n1 < 1048576) :
    Calls Tryd.prog 3 #[.slice A0 n0 c0, .slice A1 n1 c1, .int .u8 (b2 : Nat)] w fun e w' => e = .returned (.bool true) ∧ Le w w' := by
  have hs0 := h0.sm
  have H0 := Lib.hid h0
  clear h0
  have hs1 := h1.sm
  have H1 := Lib.hid h1
  clear h1
  have HG := Lib.hid hg
  have HL := Lib.hid (Le.refl w)
  clear hg
  by_cases hm : n1 = 0
  · subst hm
    go_enter Tryd.func3, Tryd.ntmps3
    go_wp2
    go_ret
    exact ⟨rfl, HL.out⟩
  · have hm1 : ((n1 : Int) == 0) = false := beq_eq_false_iff_ne.2 (by omega)
    go_enter Tryd.func3, Tryd.ntmps3
    go_wp2_with fail
    refine (marks0 H0.out H1.out HG.out).mono ?_
    rintro _ w1 ⟨AM1, rfl, hb, hl⟩
    replace H0 := Lib.hid (H0.out.le hl)
    replace H1 := Lib.hid (H1.out.le hl)
    replace HG := Lib.hid (HG.out.le hl)
    replace HL := Lib.hid (HL.out.trans hl)
    have M1 := Lib.hid hb
    clear hl hb
    go_wp2_with fail
    refine (qCopyOwn0 H1.out).mono ?_
    rintro _ wx ⟨vY1, rfl, ho, hlx⟩
    obtain ⟨AY1, cY1, w2, hr, hb, hbl⟩ := add1 ho hlx.size (by omega) H1.out.lt b2 h2
    have hl : Le w1 w2 := Below.trans hlx hbl
    have HR := Lib.hid hr
    replace H0 := Lib.hid (H0.out.le hl)
    replace H1 := Lib.hid (H1.out.le hl)
    replace M1 := Lib.hid (M1.out.le hl)
    replace HG := Lib.hid (HG.out.le hl)
    replace HL := Lib.hid (HL.out.trans hl)
    have Y1 := Lib.hid hb
    clear ho hlx hbl hr hl hb
    go_wp2_with (at_builtin; refine wpList_append_run rfl rfl rfl rfl HR.out ?_)
    clear HR
    refine (marks0 H0.out Y1.out HG.out).mono ?_
    rintro _ w3 ⟨AM2, rfl, hb, hl⟩
    replace H0 := Lib.hid (H0.out.le hl)
    replace H1 := Lib.hid (H1.out.le hl)
    replace M1 := Lib.hid (M1.out.le hl)
    replace Y1 := Lib.hid (Y1.out.le hl)
    replace HG := Lib.hid (HG.out.le hl)
    replace HL := Lib.hid (HL.out.trans hl)
    have M2 := Lib.hid hb
    clear hl hb
    go_wp2_with fail
    go_loopg [25] (n0 + 1) (fun gk iv wr => (∃ t : Nat, t ≤ n0 ∧ iv = .int .i64 (t : Int) ∧ Le w3 wr) ∧ n0 - (intOf iv).toNat < gk)
    case atStart => exact ⟨⟨0, by omega, rfl, Le.refl _⟩, by simp only [intOf]; omega⟩
    case round =>
      obtain ⟨⟨t, ht, rfl, hl⟩, hgk⟩ := hrel
      simp only [intOf, Int.toNat_natCast] at hgk
      replace H0 := Lib.hid (H0.out.le hl)
      replace H1 := Lib.hid (H1.out.le hl)
      replace M1 := Lib.hid (M1.out.le hl)
      replace Y1 := Lib.hid (Y1.out.le hl)
      replace M2 := Lib.hid (M2.out.le hl)
      replace HG := Lib.hid (HG.out.le hl)
      replace HL := Lib.hid (HL.out.trans hl)
      have HK1 := Lib.hid hl
      clear hl
      by_cases hlt : t < n0
      · have hlg := mrk_longer (T := T0) (n := n0) (S := T1) (m := n1) (t := t) (b := b2) (by omega)
        have HLG := Lib.hid hlg
        clear hlg
        by_cases hst : mrk T0 n0 T1 n1 t = true
        · have HST := Lib.hid hst
          clear hst
          by_cases hl1 : t + n1 < n0
          · have hl2 : (t : Int) + (n1 : Int) < (n0 : Int) := by omega
            obtain ⟨g, o, rfl, _, _, hg3⟩ := Rd.c H0.out.rd (by omega)
            have HC1 := Lib.hid (hg3 (t + n1) hl1)
            clear hg3
            by_cases hte : T0 (t + n1) = b2
            · have HTE := Lib.hid hte
              clear hte
              go_wp2_with fail
              refine (qMark0 M2.out (t : Int) (by omega) (by omega)).mono ?_
              rintro _ w4 ⟨rfl, hl⟩
              replace H0 := Lib.hid (H0.out.le hl)
              replace H1 := Lib.hid (H1.out.le hl)
              replace M1 := Lib.hid (M1.out.le hl)
              replace Y1 := Lib.hid (Y1.out.le hl)
              replace M2 := Lib.hid (M2.out.le hl)
              replace HG := Lib.hid (HG.out.le hl)
              replace HL := Lib.hid (HL.out.trans hl)
              replace HK1 := Lib.hid (HK1.out.trans hl)
              clear hl
              rw [qm_in hlt, HLG.out, HST.out, decide_eq_true hl1, decide_eq_true HTE.out]
              go_wp2_with fail
              refine (qMark0 M1.out (t : Int) (by omega) (by omega)).mono ?_
              rintro _ w5 ⟨rfl, hl⟩
              replace H0 := Lib.hid (H0.out.le hl)
              replace H1 := Lib.hid (H1.out.le hl)
              replace M1 := Lib.hid (M1.out.le hl)
              replace Y1 := Lib.hid (Y1.out.le hl)
              replace M2 := Lib.hid (M2.out.le hl)
              replace HG := Lib.hid (HG.out.le hl)
              replace HL := Lib.hid (HL.out.trans hl)
              replace HK1 := Lib.hid (HK1.out.trans hl)
              clear hl
              rw [qm_in hlt, HST.out]
              obtain ⟨g', o', e', _, _, hg3⟩ := Rd.c H0.out.rd (by omega)
              injection e' with e'; injection e' with e1 e2
              subst e1; subst e2
              have hc1 := hg3 (t + n1) hl1
              simp only [bv] at hc1
              clear hg3
              rw [HTE.out] at hc1
              go_wp2
              go_roundg (n0 - (t + 1) + 1)
              case rel => exact ⟨⟨t + 1, by omega, by go_num, HK1.out⟩, by simp only [intOf]; omega⟩
              case measure => omega
            · have HTE := Lib.hid hte
              clear hte
              go_wp2_with fail
              refine (qMark0 M2.out (t : Int) (by omega) (by omega)).mono ?_
              rintro _ w4 ⟨rfl, hl⟩
              replace H0 := Lib.hid (H0.out.le hl)
              replace H1 := Lib.hid (H1.out.le hl)
              replace M1 := Lib.hid (M1.out.le hl)
              replace Y1 := Lib.hid (Y1.out.le hl)
              replace M2 := Lib.hid (M2.out.le hl)
              replace HG := Lib.hid (HG.out.le hl)
              replace HL := Lib.hid (HL.out.trans hl)
              replace HK1 := Lib.hid (HK1.out.trans hl)
              clear hl
              rw [qm_in hlt, HLG.out, HST.out, decide_eq_true hl1, decide_eq_false HTE.out]
              go_wp2_with fail
              refine (qMark0 M1.out (t : Int) (by omega) (by omega)).mono ?_
              rintro _ w5 ⟨rfl, hl⟩
              replace H0 := Lib.hid (H0.out.le hl)
              replace H1 := Lib.hid (H1.out.le hl)
              replace M1 := Lib.hid (M1.out.le hl)
              replace Y1 := Lib.hid (Y1.out.le hl)
              replace M2 := Lib.hid (M2.out.le hl)
              replace HG := Lib.hid (HG.out.le hl)
              replace HL := Lib.hid (HL.out.trans hl)
              replace HK1 := Lib.hid (HK1.out.trans hl)
              clear hl
              rw [qm_in hlt, HST.out]
              obtain ⟨g', o', e', _, _, hg3⟩ := Rd.c H0.out.rd (by omega)
              injection e' with e'; injection e' with e1 e2
              subst e1; subst e2
              have hc1 := hg3 (t + n1) hl1
              simp only [bv] at hc1
              clear hg3
              have hne : (((T0 (t + n1) : Nat) : Int) == (b2 : Int)) = false := beq_eq_false_iff_ne.2 (fun h => HTE.out (by omega))
              go_wp2
              go_roundg (n0 - (t + 1) + 1)
              case rel => exact ⟨⟨t + 1, by omega, by go_num, HK1.out⟩, by simp only [intOf]; omega⟩
              case measure => omega
          · have hl2 : ¬ ((t : Int) + (n1 : Int) < (n0 : Int)) := by omega
            go_wp2_with fail
            refine (qMark0 M2.out (t : Int) (by omega) (by omega)).mono ?_
            rintro _ w4 ⟨rfl, hl⟩
            replace H0 := Lib.hid (H0.out.le hl)
            replace H1 := Lib.hid (H1.out.le hl)
            replace M1 := Lib.hid (M1.out.le hl)
            replace Y1 := Lib.hid (Y1.out.le hl)
            replace M2 := Lib.hid (M2.out.le hl)
            replace HG := Lib.hid (HG.out.le hl)
            replace HL := Lib.hid (HL.out.trans hl)
            replace HK1 := Lib.hid (HK1.out.trans hl)
            clear hl
            rw [qm_in hlt, HLG.out, HST.out, decide_eq_false hl1]
            go_wp2_with fail
            refine (qMark0 M1.out (t : Int) (by omega) (by omega)).mono ?_
            rintro _ w5 ⟨rfl, hl⟩
            replace H0 := Lib.hid (H0.out.le hl)
            replace H1 := Lib.hid (H1.out.le hl)
            replace M1 := Lib.hid (M1.out.le hl)
            replace Y1 := Lib.hid (Y1.out.le hl)
            replace M2 := Lib.hid (M2.out.le hl)
            replace HG := Lib.hid (HG.out.le hl)
            replace HL := Lib.hid (HL.out.trans hl)
            replace HK1 := Lib.hid (HK1.out.trans hl)
            clear hl
            rw [qm_in hlt, HST.out]
            go_wp2
            go_roundg (n0 - (t + 1) + 1)
            case rel => exact ⟨⟨t + 1, by omega, by go_num, HK1.out⟩, by simp only [intOf]; omega⟩
            case measure => omega
        · rw [Bool.not_eq_true] at hst
          have HST := Lib.hid hst
          clear hst
          go_wp2_with fail
          refine (qMark0 M2.out (t : Int) (by omega) (by omega)).mono ?_
          rintro _ w4 ⟨rfl, hl⟩
          replace H0 := Lib.hid (H0.out.le hl)
          replace H1 := Lib.hid (H1.out.le hl)
          replace M1 := Lib.hid (M1.out.le hl)
          replace Y1 := Lib.hid (Y1.out.le hl)
          replace M2 := Lib.hid (M2.out.le hl)
          replace HG := Lib.hid (HG.out.le hl)
          replace HL := Lib.hid (HL.out.trans hl)
          replace HK1 := Lib.hid (HK1.out.trans hl)
          clear hl
          rw [qm_in hlt, HLG.out, HST.out]
          go_wp2_with fail
          refine (qMark0 M1.out (t : Int) (by omega) (by omega)).mono ?_
          rintro _ w5 ⟨rfl, hl⟩
          replace H0 := Lib.hid (H0.out.le hl)
          replace H1 := Lib.hid (H1.out.le hl)
          replace M1 := Lib.hid (M1.out.le hl)
          replace Y1 := Lib.hid (Y1.out.le hl)
          replace M2 := Lib.hid (M2.out.le hl)
          replace HG := Lib.hid (HG.out.le hl)
          replace HL := Lib.hid (HL.out.trans hl)
          replace HK1 := Lib.hid (HK1.out.trans hl)
          clear hl
          rw [qm_in hlt, HST.out]
          go_wp2
          go_roundg (n0 - (t + 1) + 1)
          case rel => exact ⟨⟨t + 1, by omega, by go_num, HK1.out⟩, by simp only [intOf]; omega⟩
          case measure => omega
      · obtain rfl : t = n0 := by omega
        go_wp2
        go_ret
        exact ⟨rfl, HL.out⟩
end Go.Proofs.YtihegdecaocbgaaDoor
