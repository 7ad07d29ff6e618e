/- The law FnTwoData: its walk. Printed by walks.py. -/
import Derived.Test.YtihegdecaocbgaaDoorL3
namespace Go.Proofs.YtihegdecaocbgaaDoor
open Go.RowKit Sa

set_option maxHeartbeats 1000000 in
set_option maxRecDepth 100000 in
theorem fnTwoData_walk {A0 : Option Addr} {n0 c0 : Nat} {T0 : Nat → Nat} {A1 : Option Addr} {n1 c1 : Nat} {T1 : Nat → Nat} {A2 : Option Addr} {n2 c2 : Nat} {T2 : Nat → Nat} (w : World) (h0 : Bs w A0 n0 c0 T0) (h1 : Bs w A1 n1 c1 T1) (h2 : Bs w A2 n2 c2 T2) (hg : MaxOk w) (_hsz : n0 + n1 + n2 < 1048576) :
    Calls Tryd.prog 7 #[.slice A0 n0 c0, .slice A1 n1 c1, .slice A2 n2 c2] w fun e w' => e = .returned (.bool true) ∧ Le w w' := by
  have hs0 := h0.sm
  have H0 := Lib.hid h0
  clear h0
  have hs1 := h1.sm
  have H1 := Lib.hid h1
  clear h1
  have hs2 := h2.sm
  have H2 := Lib.hid h2
  clear h2
  have HG := Lib.hid hg
  have HL := Lib.hid (Le.refl w)
  clear hg
  go_enter Tryd.func7, Tryd.ntmps7
  go_wp2_with fail
  refine (qJoin0 H0.out H1.out (by omega)).mono ?_
  rintro _ w1 ⟨AJ, cJ, rfl, hb, hl⟩
  replace H0 := Lib.hid (H0.out.le hl)
  replace H1 := Lib.hid (H1.out.le hl)
  replace H2 := Lib.hid (H2.out.le hl)
  replace HG := Lib.hid (HG.out.le hl)
  replace HL := Lib.hid (HL.out.trans hl)
  have J := Lib.hid hb
  clear hl hb
  go_wp2_with fail
  refine (marks0 J.out H2.out HG.out).mono ?_
  rintro _ w2 ⟨AM1, rfl, hb, hl⟩
  replace H0 := Lib.hid (H0.out.le hl)
  replace H1 := Lib.hid (H1.out.le hl)
  replace H2 := Lib.hid (H2.out.le hl)
  replace J := Lib.hid (J.out.le hl)
  replace HG := Lib.hid (HG.out.le hl)
  replace HL := Lib.hid (HL.out.trans hl)
  have M1 := Lib.hid hb
  clear hl hb
  go_wp2_with fail
  refine (marks0 H0.out H2.out HG.out).mono ?_
  rintro _ w3 ⟨AM2, rfl, hb, hl⟩
  replace H0 := Lib.hid (H0.out.le hl)
  replace H1 := Lib.hid (H1.out.le hl)
  replace H2 := Lib.hid (H2.out.le hl)
  replace J := Lib.hid (J.out.le hl)
  replace M1 := Lib.hid (M1.out.le hl)
  replace HG := Lib.hid (HG.out.le hl)
  replace HL := Lib.hid (HL.out.trans hl)
  have M2 := Lib.hid hb
  clear hl hb
  go_wp2_with fail
  refine (marks0 H1.out H2.out HG.out).mono ?_
  rintro _ w4 ⟨AM3, rfl, hb, hl⟩
  replace H0 := Lib.hid (H0.out.le hl)
  replace H1 := Lib.hid (H1.out.le hl)
  replace H2 := Lib.hid (H2.out.le hl)
  replace J := Lib.hid (J.out.le hl)
  replace M1 := Lib.hid (M1.out.le hl)
  replace M2 := Lib.hid (M2.out.le hl)
  replace HG := Lib.hid (HG.out.le hl)
  replace HL := Lib.hid (HL.out.trans hl)
  have M3 := Lib.hid hb
  clear hl hb
  go_wp2_with fail
  go_loopg [26] ((n0 + n1) + 1) (fun gk iv wr => (∃ t : Nat, t ≤ (n0 + n1) ∧ iv = .int .i64 (t : Int) ∧ Le w4 wr) ∧ (n0 + n1) - (intOf iv).toNat < gk)
  case atStart => exact ⟨⟨0, by omega, rfl, Le.refl _⟩, by simp only [intOf]; omega⟩
  case round =>
    obtain ⟨⟨t, ht, rfl, hl⟩, hgk⟩ := hrel
    simp only [intOf, Int.toNat_natCast] at hgk
    replace H0 := Lib.hid (H0.out.le hl)
    replace H1 := Lib.hid (H1.out.le hl)
    replace H2 := Lib.hid (H2.out.le hl)
    replace J := Lib.hid (J.out.le hl)
    replace M1 := Lib.hid (M1.out.le hl)
    replace M2 := Lib.hid (M2.out.le hl)
    replace M3 := Lib.hid (M3.out.le hl)
    replace HG := Lib.hid (HG.out.le hl)
    replace HL := Lib.hid (HL.out.trans hl)
    have HK1 := Lib.hid hl
    clear hl
    by_cases hlt : t < (n0 + n1)
    · have hin := two_in (T := T0) (n := n0) (U := T1) (n' := n1) (S := T2) (m := n2) (t := t)
      have hou := two_out (T := T0) (n := n0) (U := T1) (n' := n1) (S := T2) (m := n2) (t := t)
      obtain ⟨g, o, rfl, _, _, hg3⟩ := Rd.c M1.out.rd (by omega)
      have hc1 := hg3 t hlt
      simp only [lv] at hc1
      clear hg3
      generalize e1 : mrk (cat T0 n0 T1) (n0 + n1) T2 n2 t = b1 at *
      clear e1
      have HI := Lib.hid hin
      have HO := Lib.hid hou
      clear hin hou
      go_wp2_with fail
      refine (qMark0 M2.out (t : Int) (by omega) (by omega)).mono ?_
      rintro _ w5 ⟨rfl, hl⟩
      replace H0 := Lib.hid (H0.out.le hl)
      replace H1 := Lib.hid (H1.out.le hl)
      replace H2 := Lib.hid (H2.out.le hl)
      replace J := Lib.hid (J.out.le hl)
      replace M1 := Lib.hid (M1.out.le hl)
      replace M2 := Lib.hid (M2.out.le hl)
      replace M3 := Lib.hid (M3.out.le hl)
      replace HG := Lib.hid (HG.out.le hl)
      replace HL := Lib.hid (HL.out.trans hl)
      replace HK1 := Lib.hid (HK1.out.trans hl)
      clear hl
      generalize e2 : qm n0 (mrk T0 n0 T2 n2) (t : Int) = b2 at *
      clear e2
      cases b2 with
      | true =>
        simp only [Bool.true_or] at HI HO
        cases b1 with
        | false =>
          cases HI.out (by first | rfl | trivial)
        | true =>
          go_wp2
          go_roundg ((n0 + n1) - (t + 1) + 1)
          case rel => exact ⟨⟨t + 1, by omega, by go_num, HK1.out⟩, by simp only [intOf]; omega⟩
          case measure => omega
      | false =>
        simp only [Bool.false_or] at HI HO
        go_wp2_with fail
        refine (qMark0 M3.out ((t : Int) - (n0 : Int)) (by omega) (by omega)).mono ?_
        rintro _ w6 ⟨rfl, hl⟩
        replace H0 := Lib.hid (H0.out.le hl)
        replace H1 := Lib.hid (H1.out.le hl)
        replace H2 := Lib.hid (H2.out.le hl)
        replace J := Lib.hid (J.out.le hl)
        replace M1 := Lib.hid (M1.out.le hl)
        replace M2 := Lib.hid (M2.out.le hl)
        replace M3 := Lib.hid (M3.out.le hl)
        replace HG := Lib.hid (HG.out.le hl)
        replace HL := Lib.hid (HL.out.trans hl)
        replace HK1 := Lib.hid (HK1.out.trans hl)
        clear hl
        generalize e3 : qm n1 (mrk T1 n1 T2 n2) ((t : Int) - (n0 : Int)) = b3 at *
        clear e3
        cases b3 with
        | true =>
          cases b1 with
          | false =>
            cases HI.out (by first | rfl | trivial)
          | true =>
            go_wp2
            go_roundg ((n0 + n1) - (t + 1) + 1)
            case rel => exact ⟨⟨t + 1, by omega, by go_num, HK1.out⟩, by simp only [intOf]; omega⟩
            case measure => omega
        | false =>
          cases b1 with
          | false =>
            go_wp2
            go_roundg ((n0 + n1) - (t + 1) + 1)
            case rel => exact ⟨⟨t + 1, by omega, by go_num, HK1.out⟩, by simp only [intOf]; omega⟩
            case measure => omega
          | true =>
            obtain ⟨hz1, hz2⟩ := HO.out rfl rfl
            have hz3 : ¬ ((n0 : Int) ≤ (t : Int)) := by omega
            have hz4 : ¬ ((t : Int) + (n2 : Int) ≤ (n0 : Int)) := by omega
            go_wp2
            go_roundg ((n0 + n1) - (t + 1) + 1)
            case rel => exact ⟨⟨t + 1, by omega, by go_num, HK1.out⟩, by simp only [intOf]; omega⟩
            case measure => omega
    · obtain rfl : t = (n0 + n1) := by omega
      go_wp2
      go_ret
      exact ⟨rfl, HL.out⟩
end Go.Proofs.YtihegdecaocbgaaDoor
