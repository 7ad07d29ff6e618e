/- The law FnNarrower: its walk. Printed by walks.py. -/
import Derived.Test.YtncoihekfmponaaDoorH1
namespace Go.Proofs.YtncoihekfmponaaDoor
open Go.RowKit Sa

set_option maxHeartbeats 1000000 in
set_option maxRecDepth 100000 in
theorem fnNarrower_walk {A0 : Option Addr} {n0 c0 : Nat} {T0 : Nat → Nat} {A1 : Option Addr} {n1 c1 : Nat} {T1 : Nat → Nat} {A2 : Option Addr} {n2 c2 : Nat} {T2 : Nat → Nat} (w : World) (h0 : Bs w A0 n0 c0 T0) (h1 : Bs w A1 n1 c1 T1) (h2 : Bs w A2 n2 c2 T2) (hg : MaxOk w) (_hsz : n0 + n1 + n2 < 1048576) :
    Calls Tryd.prog 12 #[.slice A0 n0 c0, .slice A1 n1 c1, .slice A2 n2 c2] w fun e w' => e = .returned (.bool true) ∧ Le w w' := by
  have hs0 := h0.sm
  have H0 := Lib.hid h0
  clear h0
  have hs1 := h1.sm
  have H1 := Lib.hid h1
  clear h1
  have hs2 := h2.sm
  have H2 := Lib.hid h2
  clear h2
  have HG := Lib.hid hg
  have HL := Lib.hid (Le.refl w)
  clear hg
  have hoc : occ T0 n0 T1 n1 n0 ≤ n0 := occ_le
  have hoc2 : occ T0 n0 (cat T1 n1 T2) (n1 + n2) n0 ≤ n0 := occ_le
  go_enter Tryd.func12, Tryd.ntmps12
  go_wp2_with fail
  refine (copied0 H0.out).mono ?_
  rintro _ w1 ⟨AY0, cY0, rfl, hb, hl⟩
  replace H0 := Lib.hid (H0.out.le hl)
  replace H1 := Lib.hid (H1.out.le hl)
  replace H2 := Lib.hid (H2.out.le hl)
  replace HG := Lib.hid (HG.out.le hl)
  replace HL := Lib.hid (HL.out.trans hl)
  have Y0 := Lib.hid hb
  clear hl hb
  go_wp2_with fail
  refine (copied0 H1.out).mono ?_
  rintro _ w2 ⟨AY1, cY1, rfl, hb, hl⟩
  replace H0 := Lib.hid (H0.out.le hl)
  replace H1 := Lib.hid (H1.out.le hl)
  replace H2 := Lib.hid (H2.out.le hl)
  replace Y0 := Lib.hid (Y0.out.le hl)
  replace HG := Lib.hid (HG.out.le hl)
  replace HL := Lib.hid (HL.out.trans hl)
  have Y1 := Lib.hid hb
  clear hl hb
  go_wp2_with fail
  refine (lookup0 Y0.out Y1.out HG.out (-1) (by omega) (by omega)).mono ?_
  rintro _ w3 ⟨AR1, cR1, rfl, hsa, hb, hl⟩
  replace H0 := Lib.hid (H0.out.le hl)
  replace H1 := Lib.hid (H1.out.le hl)
  replace H2 := Lib.hid (H2.out.le hl)
  replace Y0 := Lib.hid (Y0.out.le hl)
  replace Y1 := Lib.hid (Y1.out.le hl)
  replace HG := Lib.hid (HG.out.le hl)
  replace HL := Lib.hid (HL.out.trans hl)
  have R1 := Lib.hid hb
  clear hl hb
  have HSA := Lib.hid hsa
  clear hsa
  rw [num_neg (by omega)] at *
  go_wp2_with fail
  refine (copied0 H0.out).mono ?_
  rintro _ w4 ⟨AY2, cY2, rfl, hb, hl⟩
  replace H0 := Lib.hid (H0.out.le hl)
  replace H1 := Lib.hid (H1.out.le hl)
  replace H2 := Lib.hid (H2.out.le hl)
  replace Y0 := Lib.hid (Y0.out.le hl)
  replace Y1 := Lib.hid (Y1.out.le hl)
  replace R1 := Lib.hid (R1.out.le hl)
  replace HG := Lib.hid (HG.out.le hl)
  replace HL := Lib.hid (HL.out.trans hl)
  have Y2 := Lib.hid hb
  clear hl hb
  go_wp2_with fail
  refine (joined0 H1.out H2.out (by omega)).mono ?_
  rintro _ w5 ⟨AJ, cJ, rfl, hb, hl⟩
  replace H0 := Lib.hid (H0.out.le hl)
  replace H1 := Lib.hid (H1.out.le hl)
  replace H2 := Lib.hid (H2.out.le hl)
  replace Y0 := Lib.hid (Y0.out.le hl)
  replace Y1 := Lib.hid (Y1.out.le hl)
  replace R1 := Lib.hid (R1.out.le hl)
  replace Y2 := Lib.hid (Y2.out.le hl)
  replace HG := Lib.hid (HG.out.le hl)
  replace HL := Lib.hid (HL.out.trans hl)
  have J := Lib.hid hb
  clear hl hb
  go_wp2_with fail
  refine (lookup0 Y2.out J.out HG.out (-1) (by omega) (by omega)).mono ?_
  rintro _ w6 ⟨AR2, cR2, rfl, _, hb, hl⟩
  replace H0 := Lib.hid (H0.out.le hl)
  replace H1 := Lib.hid (H1.out.le hl)
  replace H2 := Lib.hid (H2.out.le hl)
  replace Y0 := Lib.hid (Y0.out.le hl)
  replace Y1 := Lib.hid (Y1.out.le hl)
  replace R1 := Lib.hid (R1.out.le hl)
  replace Y2 := Lib.hid (Y2.out.le hl)
  replace J := Lib.hid (J.out.le hl)
  replace HG := Lib.hid (HG.out.le hl)
  replace HL := Lib.hid (HL.out.trans hl)
  have R2 := Lib.hid hb
  clear hl hb
  rw [num_neg (by omega)] at *
  by_cases hb0 : n1 = 0 ∨ occ T0 n0 (cat T1 n1 T2) (n1 + n2) n0 = 0
  · by_cases hn1 : n1 = 0
    · have hn2 : ((n1 : Int) == 0) = true := beq_iff_eq.2 (by omega)
      clear hn1
      go_wp2_with fail
      refine (occurrences0 H0.out H1.out).mono ?_
      rintro _ w7 ⟨A3, c3, rfl, hl⟩
      replace H0 := Lib.hid (H0.out.le hl)
      replace H1 := Lib.hid (H1.out.le hl)
      replace H2 := Lib.hid (H2.out.le hl)
      replace Y0 := Lib.hid (Y0.out.le hl)
      replace Y1 := Lib.hid (Y1.out.le hl)
      replace R1 := Lib.hid (R1.out.le hl)
      replace Y2 := Lib.hid (Y2.out.le hl)
      replace J := Lib.hid (J.out.le hl)
      replace R2 := Lib.hid (R2.out.le hl)
      replace HG := Lib.hid (HG.out.le hl)
      replace HL := Lib.hid (HL.out.trans hl)
      clear hl
      go_wp2_with fail
      refine (joined0 H1.out H2.out (by omega)).mono ?_
      rintro _ w8 ⟨AJ2, cJ2, rfl, hb, hl⟩
      replace H0 := Lib.hid (H0.out.le hl)
      replace H1 := Lib.hid (H1.out.le hl)
      replace H2 := Lib.hid (H2.out.le hl)
      replace Y0 := Lib.hid (Y0.out.le hl)
      replace Y1 := Lib.hid (Y1.out.le hl)
      replace R1 := Lib.hid (R1.out.le hl)
      replace Y2 := Lib.hid (Y2.out.le hl)
      replace J := Lib.hid (J.out.le hl)
      replace R2 := Lib.hid (R2.out.le hl)
      replace HG := Lib.hid (HG.out.le hl)
      replace HL := Lib.hid (HL.out.trans hl)
      have J2 := Lib.hid hb
      clear hl hb
      go_wp2_with fail
      refine (occurrences0 H0.out J2.out).mono ?_
      rintro _ w9 ⟨A4, c4, rfl, hl⟩
      replace H0 := Lib.hid (H0.out.le hl)
      replace H1 := Lib.hid (H1.out.le hl)
      replace H2 := Lib.hid (H2.out.le hl)
      replace Y0 := Lib.hid (Y0.out.le hl)
      replace Y1 := Lib.hid (Y1.out.le hl)
      replace R1 := Lib.hid (R1.out.le hl)
      replace Y2 := Lib.hid (Y2.out.le hl)
      replace J := Lib.hid (J.out.le hl)
      replace R2 := Lib.hid (R2.out.le hl)
      replace J2 := Lib.hid (J2.out.le hl)
      replace HG := Lib.hid (HG.out.le hl)
      replace HL := Lib.hid (HL.out.trans hl)
      clear hl
      go_wp2
      go_ret
      exact ⟨rfl, HL.out⟩
    · have hn2 : ((n1 : Int) == 0) = false := beq_eq_false_iff_ne.2 (by omega)
      have ho2 : ((occ T0 n0 (cat T1 n1 T2) (n1 + n2) n0 : Nat) : Int) = 0 := by omega
      have ho3 : (((occ T0 n0 (cat T1 n1 T2) (n1 + n2) n0 : Nat) : Int) == 0) = true := beq_iff_eq.2 ho2
      go_wp2_with fail
      refine (occurrences0 H0.out H1.out).mono ?_
      rintro _ w7 ⟨A3, c3, rfl, hl⟩
      replace H0 := Lib.hid (H0.out.le hl)
      replace H1 := Lib.hid (H1.out.le hl)
      replace H2 := Lib.hid (H2.out.le hl)
      replace Y0 := Lib.hid (Y0.out.le hl)
      replace Y1 := Lib.hid (Y1.out.le hl)
      replace R1 := Lib.hid (R1.out.le hl)
      replace Y2 := Lib.hid (Y2.out.le hl)
      replace J := Lib.hid (J.out.le hl)
      replace R2 := Lib.hid (R2.out.le hl)
      replace HG := Lib.hid (HG.out.le hl)
      replace HL := Lib.hid (HL.out.trans hl)
      clear hl
      go_wp2_with fail
      refine (joined0 H1.out H2.out (by omega)).mono ?_
      rintro _ w8 ⟨AJ2, cJ2, rfl, hb, hl⟩
      replace H0 := Lib.hid (H0.out.le hl)
      replace H1 := Lib.hid (H1.out.le hl)
      replace H2 := Lib.hid (H2.out.le hl)
      replace Y0 := Lib.hid (Y0.out.le hl)
      replace Y1 := Lib.hid (Y1.out.le hl)
      replace R1 := Lib.hid (R1.out.le hl)
      replace Y2 := Lib.hid (Y2.out.le hl)
      replace J := Lib.hid (J.out.le hl)
      replace R2 := Lib.hid (R2.out.le hl)
      replace HG := Lib.hid (HG.out.le hl)
      replace HL := Lib.hid (HL.out.trans hl)
      have J2 := Lib.hid hb
      clear hl hb
      go_wp2_with fail
      refine (occurrences0 H0.out J2.out).mono ?_
      rintro _ w9 ⟨A4, c4, rfl, hl⟩
      replace H0 := Lib.hid (H0.out.le hl)
      replace H1 := Lib.hid (H1.out.le hl)
      replace H2 := Lib.hid (H2.out.le hl)
      replace Y0 := Lib.hid (Y0.out.le hl)
      replace Y1 := Lib.hid (Y1.out.le hl)
      replace R1 := Lib.hid (R1.out.le hl)
      replace Y2 := Lib.hid (Y2.out.le hl)
      replace J := Lib.hid (J.out.le hl)
      replace R2 := Lib.hid (R2.out.le hl)
      replace J2 := Lib.hid (J2.out.le hl)
      replace HG := Lib.hid (HG.out.le hl)
      replace HL := Lib.hid (HL.out.trans hl)
      clear hl
      go_wp2
      go_ret
      exact ⟨rfl, HL.out⟩
  · obtain ⟨f0, hf1, hf2⟩ := narrower HSA.out (S := T1) (U := T2) (k := n2) (m := n1) (by omega) (by omega)
    have hcR1 := R1.out.nc
    have HF2 := Lib.hid hf2
    clear hf2
    generalize occ T0 n0 (cat T1 n1 T2) (n1 + n2) n0 = q2 at *
    generalize occ T0 n0 T1 n1 n0 = q at *
    have hn2 : ((n1 : Int) == 0) = false := beq_eq_false_iff_ne.2 (by omega)
    have ho3 : ((q2 : Int) == 0) = false := beq_eq_false_iff_ne.2 (by omega)
    go_wp2_with fail
    go_loopg [9] ((f0 + 1) + 1) (fun gk iv wr => (∃ t : Nat, t ≤ (f0 + 1) ∧ iv = .int .i64 (t : Int) ∧ Le w6 wr ∧ t ≤ f0) ∧ (f0 + 1) - (intOf iv).toNat < gk)
    case atStart => exact ⟨⟨0, by omega, rfl, Le.refl _, by omega⟩, by simp only [intOf]; omega⟩
    case round =>
      obtain ⟨⟨t, ht, rfl, hl, hex⟩, hgk⟩ := hrel
      simp only [intOf, Int.toNat_natCast] at hgk
      replace H0 := Lib.hid (H0.out.le hl)
      replace H1 := Lib.hid (H1.out.le hl)
      replace H2 := Lib.hid (H2.out.le hl)
      replace Y0 := Lib.hid (Y0.out.le hl)
      replace Y1 := Lib.hid (Y1.out.le hl)
      replace R1 := Lib.hid (R1.out.le hl)
      replace Y2 := Lib.hid (Y2.out.le hl)
      replace J := Lib.hid (J.out.le hl)
      replace R2 := Lib.hid (R2.out.le hl)
      replace HG := Lib.hid (HG.out.le hl)
      replace HL := Lib.hid (HL.out.trans hl)
      have HK1 := Lib.hid hl
      clear hl
      have Xhex := Lib.hid hex
      clear hex
      by_cases hlt : t < (f0 + 1)
      · have hxt := Xhex.out
        obtain ⟨g, o, rfl, _, _, _⟩ := Rd.c R1.out.rd (by omega)
        have RP : Hid (Is wr (some ⟨g, o + t, none⟩) q2 (cR1 - t) (fun j => ((hit T0 n0 T1 n1 (t + j) : Nat) : Int))) := Lib.hid (by have h := R0.part R1.out.rd t (t + q2) (by omega); rw [Nat.add_sub_cancel_left] at h; exact ⟨h, by omega, by omega⟩)
        have e1 : (t : Int) + (q2 : Int) ≤ (q : Int) := by omega
        have e2 : ¬ cR1 = t := by omega
        have e3 : (t : Int) + (q2 : Int) ≤ (cR1 : Int) := by omega
        go_wp2_with fail
        try simp only [Nat.add_sub_cancel_left]
        refine (sameInts0 RP.out R2.out).mono ?_
        rintro _ w7 ⟨rfl, hl⟩
        replace H0 := Lib.hid (H0.out.le hl)
        replace H1 := Lib.hid (H1.out.le hl)
        replace H2 := Lib.hid (H2.out.le hl)
        replace Y0 := Lib.hid (Y0.out.le hl)
        replace Y1 := Lib.hid (Y1.out.le hl)
        replace R1 := Lib.hid (R1.out.le hl)
        replace Y2 := Lib.hid (Y2.out.le hl)
        replace J := Lib.hid (J.out.le hl)
        replace R2 := Lib.hid (R2.out.le hl)
        replace RP := Lib.hid (RP.out.le hl)
        replace HG := Lib.hid (HG.out.le hl)
        replace HL := Lib.hid (HL.out.trans hl)
        replace HK1 := Lib.hid (HK1.out.trans hl)
        clear hl
        by_cases hsm : q2 = q2 ∧ ∀ i, i < q2 → ((hit T0 n0 T1 n1 (t + i) : Nat) : Int) = ((hit T0 n0 (cat T1 n1 T2) (n1 + n2) i : Nat) : Int)
        · rw [decide_eq_true hsm]
          clear hsm
          go_wp2
          go_ret
          exact ⟨rfl, HL.out⟩
        · rw [decide_eq_false hsm]
          have htf : t ≠ f0 := fun h => hsm ⟨rfl, fun i hi => by rw [h, HF2.out i hi]⟩
          clear hsm
          go_wp2
          go_roundg ((f0 + 1) - (t + 1) + 1)
          case rel => exact ⟨⟨t + 1, by omega, by go_num, HK1.out, by omega⟩, by simp only [intOf]; omega⟩
          case measure => omega
      · obtain rfl : t = (f0 + 1) := by omega
        have := Xhex.out
        omega
end Go.Proofs.YtncoihekfmponaaDoor
