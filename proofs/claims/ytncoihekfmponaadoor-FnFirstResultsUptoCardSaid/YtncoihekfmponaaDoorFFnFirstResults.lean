/- The law FnFirstResults: its walk. Printed by walks.py. Its last statement draws its order. -/
import Derived.Test.YtncoihekfmponaaDoorH1
import Derived.Deep.RegionHeld3
namespace Go.Proofs.YtncoihekfmponaaDoor
open Go.RowKit Sa

theorem Le.drew1 (w : World) : Le w w.drew := ⟨rfl, rfl, rfl, Nat.le_refl _, fun _ _ => rfl⟩

set_option maxHeartbeats 1000000 in
set_option maxRecDepth 100000 in
theorem fnFirstResults_walk {A0 : Option Addr} {n0 c0 : Nat} {T0 : Nat → Nat} {A1 : Option Addr} {n1 c1 : Nat} {T1 : Nat → Nat} (x2 : Int) (w : World) (h0 : Bs w A0 n0 c0 T0) (h1 : Bs w A1 n1 c1 T1) (h2 : -9223372036854775808 ≤ x2 ∧ x2 ≤ 9223372036854775807) (hg : MaxOk w) (_hsz : n0 + n1 < 1048576) :
    Calls Tryd.prog 6 #[.slice A0 n0 c0, .slice A1 n1 c1, .int .i64 x2] w fun e w' => e = .returned (.bool true) ∧ Le w w' := by
  have hs0 := h0.sm
  have H0 := Lib.hid h0
  clear h0
  have hs1 := h1.sm
  have H1 := Lib.hid h1
  clear h1
  obtain ⟨h2a, h2b⟩ := h2
  have HG := Lib.hid hg
  have HL := Lib.hid (Le.refl w)
  clear hg
  have hoc : occ T0 n0 T1 n1 n0 ≤ n0 := occ_le
  by_cases hx0 : x2 < 0
  · go_enter Tryd.func6, Tryd.ntmps6
    go_wp2
    go_ret
    exact ⟨rfl, HL.out⟩
  · obtain ⟨N, rfl⟩ : ∃ N : Nat, x2 = (N : Int) := ⟨x2.toNat, by omega⟩
    go_enter Tryd.func6, Tryd.ntmps6
    go_wp2_with fail
    refine (copied0 H0.out).mono ?_
    rintro _ w1 ⟨AY0, cY0, rfl, hb, hl⟩
    replace H0 := Lib.hid (H0.out.le hl)
    replace H1 := Lib.hid (H1.out.le hl)
    replace HG := Lib.hid (HG.out.le hl)
    replace HL := Lib.hid (HL.out.trans hl)
    have Y0 := Lib.hid hb
    clear hl hb
    go_wp2_with fail
    refine (copied0 H1.out).mono ?_
    rintro _ w2 ⟨AY1, cY1, rfl, hb, hl⟩
    replace H0 := Lib.hid (H0.out.le hl)
    replace H1 := Lib.hid (H1.out.le hl)
    replace Y0 := Lib.hid (Y0.out.le hl)
    replace HG := Lib.hid (HG.out.le hl)
    replace HL := Lib.hid (HL.out.trans hl)
    have Y1 := Lib.hid hb
    clear hl hb
    go_wp2_with fail
    refine (lookup0 Y0.out Y1.out HG.out (-1) (by omega) (by omega)).mono ?_
    rintro _ w3 ⟨AR1, cR1, rfl, hsa, hb, hl⟩
    replace H0 := Lib.hid (H0.out.le hl)
    replace H1 := Lib.hid (H1.out.le hl)
    replace Y0 := Lib.hid (Y0.out.le hl)
    replace Y1 := Lib.hid (Y1.out.le hl)
    replace HG := Lib.hid (HG.out.le hl)
    replace HL := Lib.hid (HL.out.trans hl)
    have R1 := Lib.hid hb
    clear hl hb
    have HSA := Lib.hid hsa
    clear hsa
    rw [num_neg (by omega)] at *
    have hcR1 := R1.out.nc
    by_cases hN : occ T0 n0 T1 n1 n0 < N
    · have hN1 : ((occ T0 n0 T1 n1 n0 : Nat) : Int) < (N : Int) := by omega
      have z1 : num T0 n0 T1 n1 (N : Int) = occ T0 n0 T1 n1 n0 := by unfold num; split <;> omega
      have Z1 := Lib.hid z1
      clear z1
      have RP := Lib.hid (R1.out.pre (k := occ T0 n0 T1 n1 n0) (by omega))
      have a1 : (0 : Int) ≤ ((occ T0 n0 T1 n1 n0 : Nat) : Int) := by omega
      have a2 : ((occ T0 n0 T1 n1 n0 : Nat) : Int) ≤ (cR1 : Int) := by omega
      generalize hk : occ T0 n0 T1 n1 n0 = k at *
      have HKE := Lib.hid hk
      clear hk
      go_wp2_with fail
      go_region_held3 (fun w' => Le w3 w') (first | exact Le.drew1 _ | assumption) (first | (go_at_call 23; refine (occurrences0 (H0.out.le (by assumption)) (H1.out.le (by assumption))).mono ?_; rintro _ w4 ⟨A4, c4, rfl, hl4⟩; have hs4 : Le w3 w4 := Le.trans (by assumption) hl4; rw [HKE.out]) | (go_at_call_of 25 (Value.slice A0 n0 c0); refine (copied0 (H0.out.le (by assumption))).mono ?_; rintro _ w5 ⟨A5, c5, rfl, hb5, hl5⟩; have hs5 : Le w3 w5 := Le.trans (by assumption) hl5) | (go_at_call_of 25 (Value.slice A1 n1 c1); refine (copied0 (H1.out.le (by assumption))).mono ?_; rintro _ w6 ⟨A6, c6, rfl, hb6, hl6⟩; have hs6 : Le w3 w6 := Le.trans (by assumption) hl6; have hb5' := hb5.le (by assumption : Le w5 w6)) | (go_at_call 26; refine (lookup0 hb5' hb6 (HG.out.le (by assumption)) (N : Int) (by omega) (by omega)).mono ?_; rintro _ w7 ⟨A7, c7, rfl, _, hb7, hl7⟩; have hs7 : Le w3 w7 := Le.trans (by assumption) hl7; rw [Z1.out] at hb7 ⊢) | (go_at_call 27; refine (sameInts0 hb7 (RP.out.le (by assumption))).mono ?_; rintro _ w8 ⟨rfl, hl8⟩; have hs8 : Le w3 w8 := Le.trans (by assumption) hl8))
      go_wp2
      go_ret
      exact ⟨by simp, HL.out.trans (by assumption)⟩
    · have hN1 : ¬ ((occ T0 n0 T1 n1 n0 : Nat) : Int) < (N : Int) := by omega
      have z1 : num T0 n0 T1 n1 (N : Int) = N := by unfold num; split <;> omega
      have Z1 := Lib.hid z1
      clear z1
      have RP := Lib.hid (R1.out.pre (k := N) (by omega))
      have a1 : (0 : Int) ≤ ((N : Nat) : Int) := by omega
      have a2 : ((N : Nat) : Int) ≤ (cR1 : Int) := by omega
      generalize hk : occ T0 n0 T1 n1 n0 = k at *
      have HKE := Lib.hid hk
      clear hk
      go_wp2_with fail
      go_region_held3 (fun w' => Le w3 w') (first | exact Le.drew1 _ | assumption) (first | (go_at_call 23; refine (occurrences0 (H0.out.le (by assumption)) (H1.out.le (by assumption))).mono ?_; rintro _ w4 ⟨A4, c4, rfl, hl4⟩; have hs4 : Le w3 w4 := Le.trans (by assumption) hl4; rw [HKE.out]) | (go_at_call_of 25 (Value.slice A0 n0 c0); refine (copied0 (H0.out.le (by assumption))).mono ?_; rintro _ w5 ⟨A5, c5, rfl, hb5, hl5⟩; have hs5 : Le w3 w5 := Le.trans (by assumption) hl5) | (go_at_call_of 25 (Value.slice A1 n1 c1); refine (copied0 (H1.out.le (by assumption))).mono ?_; rintro _ w6 ⟨A6, c6, rfl, hb6, hl6⟩; have hs6 : Le w3 w6 := Le.trans (by assumption) hl6; have hb5' := hb5.le (by assumption : Le w5 w6)) | (go_at_call 26; refine (lookup0 hb5' hb6 (HG.out.le (by assumption)) (N : Int) (by omega) (by omega)).mono ?_; rintro _ w7 ⟨A7, c7, rfl, _, hb7, hl7⟩; have hs7 : Le w3 w7 := Le.trans (by assumption) hl7; rw [Z1.out] at hb7 ⊢) | (go_at_call 27; refine (sameInts0 hb7 (RP.out.le (by assumption))).mono ?_; rintro _ w8 ⟨rfl, hl8⟩; have hs8 : Le w3 w8 := Le.trans (by assumption) hl8))
      go_wp2
      go_ret
      exact ⟨by simp, HL.out.trans (by assumption)⟩
end Go.Proofs.YtncoihekfmponaaDoor
