/- The law FnTailData: its walk. Printed by walks.py. -/
import Derived.Test.YtihegdecaocbgaaDoorL3
import Derived.Deep.RegionHeld3
namespace Go.Proofs.YtihegdecaocbgaaDoor
open Go.RowKit Sa

theorem fnTailData_drew1 (w : World) : Le w w.drew := ⟨rfl, rfl, rfl, Nat.le_refl _, fun _ _ => rfl⟩

set_option maxHeartbeats 1000000 in
set_option maxRecDepth 100000 in
theorem fnTailData_walk {A0 : Option Addr} {n0 c0 : Nat} {T0 : Nat → Nat} {A2 : Option Addr} {n2 c2 : Nat} {T2 : Nat → Nat} (x1 : Int) (w : World) (h0 : Bs w A0 n0 c0 T0) (h1 : -9223372036854775808 ≤ x1 ∧ x1 ≤ 9223372036854775807) (h2 : Bs w A2 n2 c2 T2) (hg : MaxOk w) (_hsz : n0 + n2 < 1048576) :
    Calls Tryd.prog 6 #[.slice A0 n0 c0, .int .i64 x1, .slice A2 n2 c2] w fun e w' => e = .returned (.bool true) ∧ Le w w' := by
  have hs0 := h0.sm
  have H0 := Lib.hid h0
  clear h0
  obtain ⟨h1a, h1b⟩ := h1
  have hs2 := h2.sm
  have H2 := Lib.hid h2
  clear h2
  have HG := Lib.hid hg
  have HL := Lib.hid (Le.refl w)
  clear hg
  by_cases hc : x1 < 0 ∨ (n0 : Int) < x1
  · by_cases a1 : x1 < 0
    · go_enter Tryd.func6, Tryd.ntmps6
      go_wp2
      go_ret
      exact ⟨rfl, HL.out⟩
    · have a2 : (n0 : Int) < x1 := by omega
      go_enter Tryd.func6, Tryd.ntmps6
      go_wp2
      go_ret
      exact ⟨rfl, HL.out⟩
  · obtain ⟨f, rfl⟩ : ∃ f : Nat, x1 = (f : Int) := ⟨x1.toNat, by omega⟩
    have a1 : ¬ ((f : Int) < 0) := by omega
    have a2 : ¬ ((n0 : Int) < (f : Int)) := by omega
    have hnc := H0.out.nc
    have a3 : (f : Int) ≤ (n0 : Int) := by omega
    have a4 : (0 : Int) ≤ (f : Int) := by omega
    have a5 : (n0 : Int) ≤ (c0 : Int) := by omega
    by_cases hnf : n0 = f
    · subst hnf
      by_cases hcf : c0 = n0
      · subst hcf
        go_enter Tryd.func6, Tryd.ntmps6
        go_wp2_with fail
        go_region_held3 (fun w' => Le w w') (first | exact fnTailData_drew1 _ | assumption) (first | (go_at_call_of 15 (Value.slice A0 c0 c0); refine (marks0 (H0.out.le (by assumption)) (H2.out.le (by assumption)) (HG.out.le (by assumption))).mono ?_; rintro _ wM1 ⟨AM1, rfl, hbM1, hlM1⟩; have hsM1 : Le w wM1 := Le.trans (by assumption) hlM1) | (go_at_call 15; refine (marks0 (⟨R0.zero, fun _ h => by omega, Nat.zero_le _, by omega⟩ : Bs _ _ 0 _ (fun _ => 0)) (H2.out.le (by assumption)) (HG.out.le (by assumption))).mono ?_; rintro _ wM2 ⟨AM2, rfl, hbM2, hlM2⟩; have hsM2 : Le w wM2 := Le.trans (by assumption) hlM2; have hlA : Le wM1 wM2 := by assumption))
        have hl : Le w wM2 := hsM2
        replace H0 := Lib.hid (H0.out.le hl)
        replace H2 := Lib.hid (H2.out.le hl)
        replace HG := Lib.hid (HG.out.le hl)
        replace HL := Lib.hid (HL.out.trans hl)
        have M1 := Lib.hid (hbM1.le hlA)
        have M2 := Lib.hid hbM2
        clear hl hsM1 hsM2 hlM1 hlM2 hlA hbM1 hbM2
        go_wp2_with fail
        go_loopg [9] (0 + 1) (fun gk iv wr => (∃ t : Nat, t ≤ 0 ∧ iv = .int .i64 ((t + c0 : Nat) : Int) ∧ Le wM2 wr) ∧ 0 + c0 - (intOf iv).toNat < gk)
        case atStart => exact ⟨⟨0, by omega, by simp, Le.refl _⟩, by simp only [intOf]; omega⟩
        case round =>
          obtain ⟨⟨t, ht, rfl, hl⟩, hgk⟩ := hrel
          simp only [intOf, Int.toNat_natCast] at hgk
          replace H0 := Lib.hid (H0.out.le hl)
          replace H2 := Lib.hid (H2.out.le hl)
          replace M1 := Lib.hid (M1.out.le hl)
          replace M2 := Lib.hid (M2.out.le hl)
          replace HG := Lib.hid (HG.out.le hl)
          replace HL := Lib.hid (HL.out.trans hl)
          have HK1 := Lib.hid hl
          clear hl
          by_cases hlt : t < 0
          · omega
          · obtain rfl : t = 0 := by omega
            go_wp2
            go_ret
            exact ⟨rfl, HL.out⟩
      · go_enter Tryd.func6, Tryd.ntmps6
        go_wp2_with fail
        go_region_held3 (fun w' => Le w w') (first | exact fnTailData_drew1 _ | assumption) (first | (go_at_call_of 15 (Value.slice A0 n0 c0); refine (marks0 (H0.out.le (by assumption)) (H2.out.le (by assumption)) (HG.out.le (by assumption))).mono ?_; rintro _ wM1 ⟨AM1, rfl, hbM1, hlM1⟩; have hsM1 : Le w wM1 := Le.trans (by assumption) hlM1) | (go_at_call 15; refine (marks0 (⟨R0.zero, fun _ h => by omega, Nat.zero_le _, by omega⟩ : Bs _ _ 0 _ (fun _ => 0)) (H2.out.le (by assumption)) (HG.out.le (by assumption))).mono ?_; rintro _ wM2 ⟨AM2, rfl, hbM2, hlM2⟩; have hsM2 : Le w wM2 := Le.trans (by assumption) hlM2; have hlA : Le wM1 wM2 := by assumption))
        have hl : Le w wM2 := hsM2
        replace H0 := Lib.hid (H0.out.le hl)
        replace H2 := Lib.hid (H2.out.le hl)
        replace HG := Lib.hid (HG.out.le hl)
        replace HL := Lib.hid (HL.out.trans hl)
        have M1 := Lib.hid (hbM1.le hlA)
        have M2 := Lib.hid hbM2
        clear hl hsM1 hsM2 hlM1 hlM2 hlA hbM1 hbM2
        go_wp2_with fail
        go_loopg [9] (0 + 1) (fun gk iv wr => (∃ t : Nat, t ≤ 0 ∧ iv = .int .i64 ((t + n0 : Nat) : Int) ∧ Le wM2 wr) ∧ 0 + n0 - (intOf iv).toNat < gk)
        case atStart => exact ⟨⟨0, by omega, by simp, Le.refl _⟩, by simp only [intOf]; omega⟩
        case round =>
          obtain ⟨⟨t, ht, rfl, hl⟩, hgk⟩ := hrel
          simp only [intOf, Int.toNat_natCast] at hgk
          replace H0 := Lib.hid (H0.out.le hl)
          replace H2 := Lib.hid (H2.out.le hl)
          replace M1 := Lib.hid (M1.out.le hl)
          replace M2 := Lib.hid (M2.out.le hl)
          replace HG := Lib.hid (HG.out.le hl)
          replace HL := Lib.hid (HL.out.trans hl)
          have HK2 := Lib.hid hl
          clear hl
          by_cases hlt : t < 0
          · omega
          · obtain rfl : t = 0 := by omega
            go_wp2
            go_ret
            exact ⟨rfl, HL.out⟩
    · have a6 : ¬ c0 = f := by omega
      obtain ⟨g, o, rfl, _, _, _⟩ := Rd.c H0.out.rd (by omega)
      have P1 := Lib.hid (H0.out.part (i := f) (j := n0) (by omega) (by omega))
      go_enter Tryd.func6, Tryd.ntmps6
      go_wp2_with fail
      go_region_held3 (fun w' => Le w w') (first | exact fnTailData_drew1 _ | assumption) (first | (go_at_call_of 15 (Value.slice (some ⟨g, o, none⟩) n0 c0); refine (marks0 (H0.out.le (by assumption)) (H2.out.le (by assumption)) (HG.out.le (by assumption))).mono ?_; rintro _ wM1 ⟨AM1, rfl, hbM1, hlM1⟩; have hsM1 : Le w wM1 := Le.trans (by assumption) hlM1) | (go_at_call_of 15 (Value.slice (some ⟨g, o + f, none⟩) (n0 - f) (c0 - f)); refine (marks0 (P1.out.le (by assumption)) (H2.out.le (by assumption)) (HG.out.le (by assumption))).mono ?_; rintro _ wM2 ⟨AM2, rfl, hbM2, hlM2⟩; have hsM2 : Le w wM2 := Le.trans (by assumption) hlM2; have hlA : Le wM1 wM2 := by assumption))
      have hl : Le w wM2 := hsM2
      replace H0 := Lib.hid (H0.out.le hl)
      replace H2 := Lib.hid (H2.out.le hl)
      replace P1 := Lib.hid (P1.out.le hl)
      replace HG := Lib.hid (HG.out.le hl)
      replace HL := Lib.hid (HL.out.trans hl)
      have M1 := Lib.hid (hbM1.le hlA)
      have M2 := Lib.hid hbM2
      clear hl hsM1 hsM2 hlM1 hlM2 hlA hbM1 hbM2
      go_wp2_with fail
      go_loopg [9] ((n0 - f) + 1) (fun gk iv wr => (∃ t : Nat, t ≤ (n0 - f) ∧ iv = .int .i64 ((t + f : Nat) : Int) ∧ Le wM2 wr) ∧ (n0 - f) + f - (intOf iv).toNat < gk)
      case atStart => exact ⟨⟨0, by omega, by simp, Le.refl _⟩, by simp only [intOf]; omega⟩
      case round =>
        obtain ⟨⟨t, ht, rfl, hl⟩, hgk⟩ := hrel
        simp only [intOf, Int.toNat_natCast] at hgk
        replace H0 := Lib.hid (H0.out.le hl)
        replace H2 := Lib.hid (H2.out.le hl)
        replace P1 := Lib.hid (P1.out.le hl)
        replace M1 := Lib.hid (M1.out.le hl)
        replace M2 := Lib.hid (M2.out.le hl)
        replace HG := Lib.hid (HG.out.le hl)
        replace HL := Lib.hid (HL.out.trans hl)
        have HK3 := Lib.hid hl
        clear hl
        by_cases hlt : t < (n0 - f)
        · have hlg := mrk_tail (T := T0) (n := n0) (S := T2) (m := n2) (t := t) (k := f) (by omega)
          have HLG := Lib.hid hlg
          clear hlg
          go_wp2_with fail
          refine (qMark0 M2.out (t : Int) (by omega) (by omega)).mono ?_
          rintro _ w1 ⟨rfl, hl⟩
          replace H0 := Lib.hid (H0.out.le hl)
          replace H2 := Lib.hid (H2.out.le hl)
          replace P1 := Lib.hid (P1.out.le hl)
          replace M1 := Lib.hid (M1.out.le hl)
          replace M2 := Lib.hid (M2.out.le hl)
          replace HG := Lib.hid (HG.out.le hl)
          replace HL := Lib.hid (HL.out.trans hl)
          replace HK3 := Lib.hid (HK3.out.trans hl)
          clear hl
          rw [qm_in hlt, HLG.out]
          go_wp2_with fail
          refine (qMark0 M1.out ((t : Int) + (f : Int)) (by omega) (by omega)).mono ?_
          rintro _ w2 ⟨rfl, hl⟩
          replace H0 := Lib.hid (H0.out.le hl)
          replace H2 := Lib.hid (H2.out.le hl)
          replace P1 := Lib.hid (P1.out.le hl)
          replace M1 := Lib.hid (M1.out.le hl)
          replace M2 := Lib.hid (M2.out.le hl)
          replace HG := Lib.hid (HG.out.le hl)
          replace HL := Lib.hid (HL.out.trans hl)
          replace HK3 := Lib.hid (HK3.out.trans hl)
          clear hl
          rw [show (t : Int) + (f : Int) = ((f + t : Nat) : Int) by omega, qm_in (by omega)]
          cases mrk T0 n0 T2 n2 (f + t)
          · go_wp2
            go_roundg ((n0 - f) - (t + 1) + 1)
            case rel => exact ⟨⟨t + 1, by omega, by go_num, HK3.out⟩, by simp only [intOf]; omega⟩
            case measure => omega
          · go_wp2
            go_roundg ((n0 - f) - (t + 1) + 1)
            case rel => exact ⟨⟨t + 1, by omega, by go_num, HK3.out⟩, by simp only [intOf]; omega⟩
            case measure => omega
        · obtain rfl : t = (n0 - f) := by omega
          go_wp2
          go_ret
          exact ⟨rfl, HL.out⟩
end Go.Proofs.YtihegdecaocbgaaDoor
