/- The law FnInnerPart: its walk. Printed by walks.py. -/
import Derived.Test.YtihegdecaocbgaaDoorL3
import Derived.Deep.RegionHeld3
namespace Go.Proofs.YtihegdecaocbgaaDoor
open Go.RowKit Sa

theorem fnInnerPart_drew1 (w : World) : Le w w.drew := ⟨rfl, rfl, rfl, Nat.le_refl _, fun _ _ => rfl⟩

set_option maxHeartbeats 1000000 in
set_option maxRecDepth 100000 in
theorem fnInnerPart_walk {A0 : Option Addr} {n0 c0 : Nat} {T0 : Nat → Nat} {A1 : Option Addr} {n1 c1 : Nat} {T1 : Nat → Nat} (x2 : Int) (x3 : Int) (w : World) (h0 : Bs w A0 n0 c0 T0) (h1 : Bs w A1 n1 c1 T1) (h2 : -9223372036854775808 ≤ x2 ∧ x2 ≤ 9223372036854775807) (h3 : -9223372036854775808 ≤ x3 ∧ x3 ≤ 9223372036854775807) (hg : MaxOk w) (_hsz : n0 + n1 < 1048576) :
    Calls Tryd.prog 11 #[.slice A0 n0 c0, .slice A1 n1 c1, .int .i64 x2, .int .i64 x3] w fun e w' => e = .returned (.bool true) ∧ Le w w' := by
  have hs0 := h0.sm
  have H0 := Lib.hid h0
  clear h0
  have hs1 := h1.sm
  have H1 := Lib.hid h1
  clear h1
  obtain ⟨h2a, h2b⟩ := h2
  obtain ⟨h3a, h3b⟩ := h3
  have HG := Lib.hid hg
  have HL := Lib.hid (Le.refl w)
  clear hg
  by_cases hc : x2 < 0 ∨ (n1 : Int) < x3 ∨ x3 ≤ x2
  · by_cases a1 : x2 < 0
    · go_enter Tryd.func11, Tryd.ntmps11
      go_wp2
      go_ret
      exact ⟨rfl, HL.out⟩
    · by_cases a2 : (n1 : Int) < x3
      · go_enter Tryd.func11, Tryd.ntmps11
        go_wp2
        go_ret
        exact ⟨rfl, HL.out⟩
      · have a3 : x3 ≤ x2 := by omega
        go_enter Tryd.func11, Tryd.ntmps11
        go_wp2
        go_ret
        exact ⟨rfl, HL.out⟩
  · obtain ⟨f, rfl⟩ : ∃ f : Nat, x2 = (f : Int) := ⟨x2.toNat, by omega⟩
    obtain ⟨z, rfl⟩ : ∃ z : Nat, x3 = (z : Int) := ⟨x3.toNat, by omega⟩
    have a1 : ¬ ((f : Int) < 0) := by omega
    have a2 : ¬ ((n1 : Int) < (z : Int)) := by omega
    have a3 : ¬ ((z : Int) ≤ (f : Int)) := by omega
    have hnc := H1.out.nc
    have a4 : ¬ c1 = f := by omega
    have a5 : (f : Int) ≤ (z : Int) := by omega
    have a6 : (z : Int) ≤ (c1 : Int) := by omega
    have a7 : (0 : Int) ≤ (f : Int) := by omega
    have a8 : (0 : Int) ≤ (z : Int) := by omega
    obtain ⟨g, o, rfl, _, _, _⟩ := Rd.c H1.out.rd (by omega)
    have P1 := Lib.hid (H1.out.part (i := f) (j := z) (by omega) (by omega))
    go_enter Tryd.func11, Tryd.ntmps11
    go_wp2_with fail
    go_region_held3 (fun w' => Le w w') (first | exact fnInnerPart_drew1 _ | assumption) (first | (go_at_call_of 15 (Value.slice (some ⟨g, o, none⟩) n1 c1); refine (marks0 (H0.out.le (by assumption)) (H1.out.le (by assumption)) (HG.out.le (by assumption))).mono ?_; rintro _ wM1 ⟨AM1, rfl, hbM1, hlM1⟩; have hsM1 : Le w wM1 := Le.trans (by assumption) hlM1) | (go_at_call_of 15 (Value.slice (some ⟨g, o + f, none⟩) (z - f) (c1 - f)); refine (marks0 (H0.out.le (by assumption)) (P1.out.le (by assumption)) (HG.out.le (by assumption))).mono ?_; rintro _ wM2 ⟨AM2, rfl, hbM2, hlM2⟩; have hsM2 : Le w wM2 := Le.trans (by assumption) hlM2; have hlA : Le wM1 wM2 := by assumption))
    have hl : Le w wM2 := hsM2
    replace H0 := Lib.hid (H0.out.le hl)
    replace H1 := Lib.hid (H1.out.le hl)
    replace P1 := Lib.hid (P1.out.le hl)
    replace HG := Lib.hid (HG.out.le hl)
    replace HL := Lib.hid (HL.out.trans hl)
    have M1 := Lib.hid (hbM1.le hlA)
    have M2 := Lib.hid hbM2
    clear hl hsM1 hsM2 hlM1 hlM2 hlA hbM1 hbM2
    go_wp2_with fail
    go_loopg [36] (n0 + 1) (fun gk iv wr => (∃ t : Nat, t ≤ n0 ∧ iv = .int .i64 (t : Int) ∧ Le wM2 wr) ∧ n0 - (intOf iv).toNat < gk)
    case atStart => exact ⟨⟨0, by omega, rfl, Le.refl _⟩, by simp only [intOf]; omega⟩
    case round =>
      obtain ⟨⟨t, ht, rfl, hl⟩, hgk⟩ := hrel
      simp only [intOf, Int.toNat_natCast] at hgk
      replace H0 := Lib.hid (H0.out.le hl)
      replace H1 := Lib.hid (H1.out.le hl)
      replace P1 := Lib.hid (P1.out.le hl)
      replace M1 := Lib.hid (M1.out.le hl)
      replace M2 := Lib.hid (M2.out.le hl)
      replace HG := Lib.hid (HG.out.le hl)
      replace HL := Lib.hid (HL.out.trans hl)
      have HK1 := Lib.hid hl
      clear hl
      by_cases hlt : t < n0
      · go_wp2_with fail
        refine (qMark0 M1.out (t : Int) (by omega) (by omega)).mono ?_
        rintro _ w1 ⟨rfl, hl⟩
        replace H0 := Lib.hid (H0.out.le hl)
        replace H1 := Lib.hid (H1.out.le hl)
        replace P1 := Lib.hid (P1.out.le hl)
        replace M1 := Lib.hid (M1.out.le hl)
        replace M2 := Lib.hid (M2.out.le hl)
        replace HG := Lib.hid (HG.out.le hl)
        replace HL := Lib.hid (HL.out.trans hl)
        replace HK1 := Lib.hid (HK1.out.trans hl)
        clear hl
        rw [qm_in hlt]
        cases hst : mrk T0 n0 T1 n1 t with
        | false =>
          go_wp2
          go_roundg (n0 - (t + 1) + 1)
          case rel => exact ⟨⟨t + 1, by omega, by go_num, HK1.out⟩, by simp only [intOf]; omega⟩
          case measure => omega
        | true =>
          have hlg := mrk_inner (a := f) (b := z) (by omega) (by omega) hst
          rw [Int.natCast_add] at hlg
          have HLG := Lib.hid hlg
          clear hlg hst
          go_wp2_with fail
          refine (qMark0 M2.out ((t : Int) + (f : Int)) (by omega) (by omega)).mono ?_
          rintro _ w2 ⟨rfl, hl⟩
          replace H0 := Lib.hid (H0.out.le hl)
          replace H1 := Lib.hid (H1.out.le hl)
          replace P1 := Lib.hid (P1.out.le hl)
          replace M1 := Lib.hid (M1.out.le hl)
          replace M2 := Lib.hid (M2.out.le hl)
          replace HG := Lib.hid (HG.out.le hl)
          replace HL := Lib.hid (HL.out.trans hl)
          replace HK1 := Lib.hid (HK1.out.trans hl)
          clear hl
          rw [HLG.out]
          go_wp2
          go_roundg (n0 - (t + 1) + 1)
          case rel => exact ⟨⟨t + 1, by omega, by go_num, HK1.out⟩, by simp only [intOf]; omega⟩
          case measure => omega
      · obtain rfl : t = n0 := by omega
        go_wp2
        go_ret
        exact ⟨rfl, HL.out⟩
end Go.Proofs.YtihegdecaocbgaaDoor
