/- The law FnDoubled: its walk. Printed by walks.py. -/
import Derived.Test.YtihegdecaocbgaaDoorL3
namespace Go.Proofs.YtihegdecaocbgaaDoor
open Go.RowKit Sa

set_option maxHeartbeats 1000000 in
set_option maxRecDepth 100000 in
theorem fnDoubled_walk {A0 : Option Addr} {n0 c0 : Nat} {T0 : Nat → Nat} {A1 : Option Addr} {n1 c1 : Nat} {T1 : Nat → Nat} (w : World) (h0 : Bs w A0 n0 c0 T0) (h1 : Bs w A1 n1 c1 T1) (hg : MaxOk w) (_hsz : n0 + n1 < 1048576) :
    Calls Tryd.prog 10 #[.slice A0 n0 c0, .slice A1 n1 c1] w fun e w' => e = .returned (.bool true) ∧ Le w w' := by
  have hs0 := h0.sm
  have H0 := Lib.hid h0
  clear h0
  have hs1 := h1.sm
  have H1 := Lib.hid h1
  clear h1
  have HG := Lib.hid hg
  have HL := Lib.hid (Le.refl w)
  clear hg
  go_enter Tryd.func10, Tryd.ntmps10
  go_wp2_with fail
  refine (marks0 H0.out H1.out HG.out).mono ?_
  rintro _ w1 ⟨AM1, rfl, hb, hl⟩
  replace H0 := Lib.hid (H0.out.le hl)
  replace H1 := Lib.hid (H1.out.le hl)
  replace HG := Lib.hid (HG.out.le hl)
  replace HL := Lib.hid (HL.out.trans hl)
  have M1 := Lib.hid hb
  clear hl hb
  go_wp2_with fail
  refine (qJoin0 H0.out H0.out (by omega)).mono ?_
  rintro _ w2 ⟨AJ, cJ, rfl, hb, hl⟩
  replace H0 := Lib.hid (H0.out.le hl)
  replace H1 := Lib.hid (H1.out.le hl)
  replace M1 := Lib.hid (M1.out.le hl)
  replace HG := Lib.hid (HG.out.le hl)
  replace HL := Lib.hid (HL.out.trans hl)
  have J := Lib.hid hb
  clear hl hb
  go_wp2_with fail
  refine (marks0 J.out H1.out HG.out).mono ?_
  rintro _ w3 ⟨AM2, rfl, hb, hl⟩
  replace H0 := Lib.hid (H0.out.le hl)
  replace H1 := Lib.hid (H1.out.le hl)
  replace M1 := Lib.hid (M1.out.le hl)
  replace J := Lib.hid (J.out.le hl)
  replace HG := Lib.hid (HG.out.le hl)
  replace HL := Lib.hid (HL.out.trans hl)
  have M2 := Lib.hid hb
  clear hl hb
  go_wp2_with fail
  go_loopg [18] (n0 + 1) (fun gk iv wr => (∃ t : Nat, t ≤ n0 ∧ iv = .int .i64 (t : Int) ∧ Le w3 wr) ∧ n0 - (intOf iv).toNat < gk)
  case atStart => exact ⟨⟨0, by omega, rfl, Le.refl _⟩, by simp only [intOf]; omega⟩
  case round =>
    obtain ⟨⟨t, ht, rfl, hl⟩, hgk⟩ := hrel
    simp only [intOf, Int.toNat_natCast] at hgk
    replace H0 := Lib.hid (H0.out.le hl)
    replace H1 := Lib.hid (H1.out.le hl)
    replace M1 := Lib.hid (M1.out.le hl)
    replace J := Lib.hid (J.out.le hl)
    replace M2 := Lib.hid (M2.out.le hl)
    replace HG := Lib.hid (HG.out.le hl)
    replace HL := Lib.hid (HL.out.trans hl)
    have HK1 := Lib.hid hl
    clear hl
    by_cases hlt : t < n0
    · go_wp2_with fail
      refine (qMark0 M1.out (t : Int) (by omega) (by omega)).mono ?_
      rintro _ w4 ⟨rfl, hl⟩
      replace H0 := Lib.hid (H0.out.le hl)
      replace H1 := Lib.hid (H1.out.le hl)
      replace M1 := Lib.hid (M1.out.le hl)
      replace J := Lib.hid (J.out.le hl)
      replace M2 := Lib.hid (M2.out.le hl)
      replace HG := Lib.hid (HG.out.le hl)
      replace HL := Lib.hid (HL.out.trans hl)
      replace HK1 := Lib.hid (HK1.out.trans hl)
      clear hl
      rw [qm_in hlt]
      cases hst : mrk T0 n0 T1 n1 t with
      | false =>
        clear hst
        go_wp2_with fail
        refine (qMark0 M2.out ((t : Int) + (n0 : Int)) (by omega) (by omega)).mono ?_
        rintro _ w5 ⟨rfl, hl⟩
        replace H0 := Lib.hid (H0.out.le hl)
        replace H1 := Lib.hid (H1.out.le hl)
        replace M1 := Lib.hid (M1.out.le hl)
        replace J := Lib.hid (J.out.le hl)
        replace M2 := Lib.hid (M2.out.le hl)
        replace HG := Lib.hid (HG.out.le hl)
        replace HL := Lib.hid (HL.out.trans hl)
        replace HK1 := Lib.hid (HK1.out.trans hl)
        clear hl
        cases hst2 : qm (n0 + n0) (mrk (cat T0 n0 T0) (n0 + n0) T1 n1) ((t : Int) + (n0 : Int)) with
        | false =>
          go_wp2
          go_roundg (n0 - (t + 1) + 1)
          case rel => exact ⟨⟨t + 1, by omega, by go_num, HK1.out⟩, by simp only [intOf]; omega⟩
          case measure => omega
        | true =>
          rw [← Int.natCast_add] at hst2
          have HLG2 := Lib.hid (mrk_twice2 hst2)
          clear hst2
          go_wp2_with fail
          refine (qMark0 M1.out (t : Int) (by omega) (by omega)).mono ?_
          rintro _ w6 ⟨rfl, hl⟩
          replace H0 := Lib.hid (H0.out.le hl)
          replace H1 := Lib.hid (H1.out.le hl)
          replace M1 := Lib.hid (M1.out.le hl)
          replace J := Lib.hid (J.out.le hl)
          replace M2 := Lib.hid (M2.out.le hl)
          replace HG := Lib.hid (HG.out.le hl)
          replace HL := Lib.hid (HL.out.trans hl)
          replace HK1 := Lib.hid (HK1.out.trans hl)
          clear hl
          rw [qm_in hlt, HLG2.out]
          go_wp2
          go_roundg (n0 - (t + 1) + 1)
          case rel => exact ⟨⟨t + 1, by omega, by go_num, HK1.out⟩, by simp only [intOf]; omega⟩
          case measure => omega
      | true =>
        obtain ⟨h1, h2⟩ := mrk_twice1 hst
        rw [Int.natCast_add] at h2
        have HLG := Lib.hid h1
        have HLG3 := Lib.hid h2
        clear hst h1 h2
        go_wp2_with fail
        refine (qMark0 M2.out (t : Int) (by omega) (by omega)).mono ?_
        rintro _ w7 ⟨rfl, hl⟩
        replace H0 := Lib.hid (H0.out.le hl)
        replace H1 := Lib.hid (H1.out.le hl)
        replace M1 := Lib.hid (M1.out.le hl)
        replace J := Lib.hid (J.out.le hl)
        replace M2 := Lib.hid (M2.out.le hl)
        replace HG := Lib.hid (HG.out.le hl)
        replace HL := Lib.hid (HL.out.trans hl)
        replace HK1 := Lib.hid (HK1.out.trans hl)
        clear hl
        rw [qm_in (by omega), HLG.out]
        go_wp2_with fail
        refine (qMark0 M2.out ((t : Int) + (n0 : Int)) (by omega) (by omega)).mono ?_
        rintro _ w8 ⟨rfl, hl⟩
        replace H0 := Lib.hid (H0.out.le hl)
        replace H1 := Lib.hid (H1.out.le hl)
        replace M1 := Lib.hid (M1.out.le hl)
        replace J := Lib.hid (J.out.le hl)
        replace M2 := Lib.hid (M2.out.le hl)
        replace HG := Lib.hid (HG.out.le hl)
        replace HL := Lib.hid (HL.out.trans hl)
        replace HK1 := Lib.hid (HK1.out.trans hl)
        clear hl
        rw [HLG3.out]
        go_wp2_with fail
        refine (qMark0 M2.out ((t : Int) + (n0 : Int)) (by omega) (by omega)).mono ?_
        rintro _ w9 ⟨rfl, hl⟩
        replace H0 := Lib.hid (H0.out.le hl)
        replace H1 := Lib.hid (H1.out.le hl)
        replace M1 := Lib.hid (M1.out.le hl)
        replace J := Lib.hid (J.out.le hl)
        replace M2 := Lib.hid (M2.out.le hl)
        replace HG := Lib.hid (HG.out.le hl)
        replace HL := Lib.hid (HL.out.trans hl)
        replace HK1 := Lib.hid (HK1.out.trans hl)
        clear hl
        cases hst2 : qm (n0 + n0) (mrk (cat T0 n0 T0) (n0 + n0) T1 n1) ((t : Int) + (n0 : Int)) with
        | false =>
          go_wp2
          go_roundg (n0 - (t + 1) + 1)
          case rel => exact ⟨⟨t + 1, by omega, by go_num, HK1.out⟩, by simp only [intOf]; omega⟩
          case measure => omega
        | true =>
          rw [← Int.natCast_add] at hst2
          have HLG2 := Lib.hid (mrk_twice2 hst2)
          clear hst2
          go_wp2_with fail
          refine (qMark0 M1.out (t : Int) (by omega) (by omega)).mono ?_
          rintro _ w10 ⟨rfl, hl⟩
          replace H0 := Lib.hid (H0.out.le hl)
          replace H1 := Lib.hid (H1.out.le hl)
          replace M1 := Lib.hid (M1.out.le hl)
          replace J := Lib.hid (J.out.le hl)
          replace M2 := Lib.hid (M2.out.le hl)
          replace HG := Lib.hid (HG.out.le hl)
          replace HL := Lib.hid (HL.out.trans hl)
          replace HK1 := Lib.hid (HK1.out.trans hl)
          clear hl
          rw [qm_in hlt, HLG2.out]
          go_wp2
          go_roundg (n0 - (t + 1) + 1)
          case rel => exact ⟨⟨t + 1, by omega, by go_num, HK1.out⟩, by simp only [intOf]; omega⟩
          case measure => omega
    · obtain rfl : t = n0 := by omega
      go_wp2
      go_ret
      exact ⟨by first | rfl | (simp; omega), HL.out⟩
end Go.Proofs.YtihegdecaocbgaaDoor
