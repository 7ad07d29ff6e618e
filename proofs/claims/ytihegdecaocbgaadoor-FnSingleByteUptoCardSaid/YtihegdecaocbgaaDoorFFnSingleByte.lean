/- The law FnSingleByte: its walk. Printed by walks.py. -/
import Derived.Test.YtihegdecaocbgaaDoorL3
namespace Go.Proofs.YtihegdecaocbgaaDoor
open Go.RowKit Sa

set_option maxHeartbeats 1000000 in
set_option maxRecDepth 100000 in
theorem fnSingleByte_walk {A0 : Option Addr} {n0 c0 : Nat} {T0 : Nat → Nat} (b1 : Nat) (w : World) (h0 : Bs w A0 n0 c0 T0) (h1 : b1 < 256) (hg : MaxOk w) (_hsz : n0 < 1048576) :
    Calls Tryd.prog 13 #[.slice A0 n0 c0, .int .u8 (b1 : Nat)] w fun e w' => e = .returned (.bool true) ∧ Le w w' := by
  have hs0 := h0.sm
  have H0 := Lib.hid h0
  clear h0
  have HG := Lib.hid hg
  have HL := Lib.hid (Le.refl w)
  clear hg
  go_enter Tryd.func13, Tryd.ntmps13
  obtain ⟨hb, hl⟩ := lit1 w b1 h1
  obtain ⟨w1, hwl⟩ : ∃ wl, wl = w.alloc (.cells #[.int .u8 ((b1 : Nat) : Int)] 5) := ⟨_, rfl⟩
  rw [← hwl] at hb hl
  replace H0 := Lib.hid (H0.out.le hl)
  replace HG := Lib.hid (HG.out.le hl)
  replace HL := Lib.hid (HL.out.trans hl)
  have Y1 := Lib.hid hb
  have HWL := Lib.hid hwl
  clear hb hl hwl
  go_wp2_with fail
  rw [← HWL.out]
  clear HWL
  refine (marks0 H0.out Y1.out HG.out).mono ?_
  rintro _ w2 ⟨AM1, rfl, hb, hl⟩
  replace H0 := Lib.hid (H0.out.le hl)
  replace Y1 := Lib.hid (Y1.out.le hl)
  replace HG := Lib.hid (HG.out.le hl)
  replace HL := Lib.hid (HL.out.trans hl)
  have M1 := Lib.hid hb
  clear hl hb
  go_wp2_with fail
  go_loopg [14] (n0 + 1) (fun gk iv wr => (∃ t : Nat, t ≤ n0 ∧ iv = .int .i64 (t : Int) ∧ Le w2 wr) ∧ n0 - (intOf iv).toNat < gk)
  case atStart => exact ⟨⟨0, by omega, rfl, Le.refl _⟩, by simp only [intOf]; omega⟩
  case round =>
    obtain ⟨⟨t, ht, rfl, hl⟩, hgk⟩ := hrel
    simp only [intOf, Int.toNat_natCast] at hgk
    replace H0 := Lib.hid (H0.out.le hl)
    replace Y1 := Lib.hid (Y1.out.le hl)
    replace M1 := Lib.hid (M1.out.le hl)
    replace HG := Lib.hid (HG.out.le hl)
    replace HL := Lib.hid (HL.out.trans hl)
    have HK1 := Lib.hid hl
    clear hl
    by_cases hlt : t < n0
    · obtain ⟨g, o, rfl, _, _, hg3⟩ := Rd.c H0.out.rd (by omega)
      have hc1 := hg3 t hlt
      simp only [bv] at hc1
      clear hg3
      by_cases hte : T0 t = b1
      · rw [hte] at hc1
        have HTE := Lib.hid hte
        clear hte
        go_wp2_with fail
        refine (qMark0 M1.out (t : Int) (by omega) (by omega)).mono ?_
        rintro _ w3 ⟨rfl, hl⟩
        replace H0 := Lib.hid (H0.out.le hl)
        replace Y1 := Lib.hid (Y1.out.le hl)
        replace M1 := Lib.hid (M1.out.le hl)
        replace HG := Lib.hid (HG.out.le hl)
        replace HL := Lib.hid (HL.out.trans hl)
        replace HK1 := Lib.hid (HK1.out.trans hl)
        clear hl
        rw [qm_in hlt, mrk_single hlt, decide_eq_true HTE.out]
        go_wp2
        go_roundg (n0 - (t + 1) + 1)
        case rel => exact ⟨⟨t + 1, by omega, by go_num, HK1.out⟩, by simp only [intOf]; omega⟩
        case measure => omega
      · have hne : (((T0 t : Nat) : Int) == (b1 : Int)) = false := beq_eq_false_iff_ne.2 (by omega)
        have HTE := Lib.hid hte
        clear hte
        go_wp2_with fail
        refine (qMark0 M1.out (t : Int) (by omega) (by omega)).mono ?_
        rintro _ w3 ⟨rfl, hl⟩
        replace H0 := Lib.hid (H0.out.le hl)
        replace Y1 := Lib.hid (Y1.out.le hl)
        replace M1 := Lib.hid (M1.out.le hl)
        replace HG := Lib.hid (HG.out.le hl)
        replace HL := Lib.hid (HL.out.trans hl)
        replace HK1 := Lib.hid (HK1.out.trans hl)
        clear hl
        rw [qm_in hlt, mrk_single hlt, decide_eq_false HTE.out]
        go_wp2
        go_roundg (n0 - (t + 1) + 1)
        case rel => exact ⟨⟨t + 1, by omega, by go_num, HK1.out⟩, by simp only [intOf]; omega⟩
        case measure => omega
    · obtain rfl : t = n0 := by omega
      go_wp2
      go_ret
      exact ⟨rfl, HL.out⟩
end Go.Proofs.YtihegdecaocbgaaDoor
