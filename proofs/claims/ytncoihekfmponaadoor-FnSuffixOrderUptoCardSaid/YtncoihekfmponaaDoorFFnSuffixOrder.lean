/- The law FnSuffixOrder: its walk. Printed by walks.py. -/
import Derived.Test.YtncoihekfmponaaDoorH1
namespace Go.Proofs.YtncoihekfmponaaDoor
open Go.RowKit Sa

set_option maxHeartbeats 1000000 in
set_option maxRecDepth 100000 in
theorem fnSuffixOrder_walk {A0 : Option Addr} {n0 c0 : Nat} {T0 : Nat → Nat} {A1 : Option Addr} {n1 c1 : Nat} {T1 : Nat → Nat} (w : World) (h0 : Bs w A0 n0 c0 T0) (h1 : Bs w A1 n1 c1 T1) (hg : MaxOk w) (_hsz : n0 + n1 < 1048576) :
    Calls Tryd.prog 13 #[.slice A0 n0 c0, .slice A1 n1 c1] w fun e w' => e = .returned (.bool true) ∧ Le w w' := by
  have hs0 := h0.sm
  have H0 := Lib.hid h0
  clear h0
  have hs1 := h1.sm
  have H1 := Lib.hid h1
  clear h1
  have HG := Lib.hid hg
  have HL := Lib.hid (Le.refl w)
  clear hg
  have hoc : occ T0 n0 T1 n1 n0 ≤ n0 := occ_le
  have hcap := H0.out.nc
  go_enter Tryd.func13, Tryd.ntmps13
  go_wp2_with fail
  refine (copied0 H0.out).mono ?_
  rintro _ w1 ⟨AY0, cY0, rfl, hb, hl⟩
  replace H0 := Lib.hid (H0.out.le hl)
  replace H1 := Lib.hid (H1.out.le hl)
  replace HG := Lib.hid (HG.out.le hl)
  replace HL := Lib.hid (HL.out.trans hl)
  have Y0 := Lib.hid hb
  clear hl hb
  go_wp2_with fail
  refine (copied0 H1.out).mono ?_
  rintro _ w2 ⟨AY1, cY1, rfl, hb, hl⟩
  replace H0 := Lib.hid (H0.out.le hl)
  replace H1 := Lib.hid (H1.out.le hl)
  replace Y0 := Lib.hid (Y0.out.le hl)
  replace HG := Lib.hid (HG.out.le hl)
  replace HL := Lib.hid (HL.out.trans hl)
  have Y1 := Lib.hid hb
  clear hl hb
  go_wp2_with fail
  refine (lookup0 Y0.out Y1.out HG.out (-1) (by omega) (by omega)).mono ?_
  rintro _ w3 ⟨AR1, cR1, rfl, hsa, hb, hl⟩
  replace H0 := Lib.hid (H0.out.le hl)
  replace H1 := Lib.hid (H1.out.le hl)
  replace Y0 := Lib.hid (Y0.out.le hl)
  replace Y1 := Lib.hid (Y1.out.le hl)
  replace HG := Lib.hid (HG.out.le hl)
  replace HL := Lib.hid (HL.out.trans hl)
  have R1 := Lib.hid hb
  clear hl hb
  have HSA := Lib.hid hsa
  clear hsa
  rw [num_neg (by omega)] at *
  generalize hk : occ T0 n0 T1 n1 n0 = k at *
  have HKE := Lib.hid hk
  clear hk
  go_wp2_with fail
  go_loopg [6] ((k - 1) + 1) (fun gk iv wr => (∃ t : Nat, t ≤ (k - 1) ∧ iv = .int .i64 ((t + 1 : Nat) : Int) ∧ Le w3 wr) ∧ (k - 1) + 1 - (intOf iv).toNat < gk)
  case atStart => exact ⟨⟨0, by omega, rfl, Le.refl _⟩, by simp only [intOf]; omega⟩
  case round =>
    obtain ⟨⟨t, ht, rfl, hl⟩, hgk⟩ := hrel
    simp only [intOf, Int.toNat_natCast] at hgk
    replace H0 := Lib.hid (H0.out.le hl)
    replace H1 := Lib.hid (H1.out.le hl)
    replace Y0 := Lib.hid (Y0.out.le hl)
    replace Y1 := Lib.hid (Y1.out.le hl)
    replace R1 := Lib.hid (R1.out.le hl)
    replace HG := Lib.hid (HG.out.le hl)
    replace HL := Lib.hid (HL.out.trans hl)
    have HK1 := Lib.hid hl
    clear hl
    by_cases hlt : t < (k - 1)
    · have hi1 := hit_lt HSA.out (S := T1) (m := n1) (j := t) (by rw [HKE.out]; omega)
      have hi2 := hit_lt HSA.out (S := T1) (m := n1) (j := t + 1) (by rw [HKE.out]; omega)
      have HSR := Lib.hid (hit_srt HSA.out (S := T1) (m := n1) (i := t) (j := t + 1) (by omega) (by rw [HKE.out]; omega))
      obtain ⟨g, o, rfl, _, _, hg3⟩ := Rd.c R1.out.rd (by omega)
      have hc1 := hg3 t (by omega)
      have hc2 := hg3 (t + 1) (by omega)
      simp only [iv] at hc1 hc2
      clear hg3
      obtain ⟨g', o', rfl, _, _, _⟩ := Rd.c H0.out.rd (by omega)
      generalize hit T0 n0 T1 n1 t = p at *
      generalize hit T0 n0 T1 n1 (t + 1) = p' at *
      go_wp2_with fail
      go_quiet (fail)
      obtain ⟨w4, hwq⟩ : ∃ wq, wq = wr.drewN nq := ⟨_, rfl⟩
      rw [← hwq]
      have hl : Le wr w4 := by rw [hwq]; exact Le.drew _ _
      clear hwq
      replace H0 := Lib.hid (H0.out.le hl)
      replace H1 := Lib.hid (H1.out.le hl)
      replace Y0 := Lib.hid (Y0.out.le hl)
      replace Y1 := Lib.hid (Y1.out.le hl)
      replace R1 := Lib.hid (R1.out.le hl)
      replace HG := Lib.hid (HG.out.le hl)
      replace HL := Lib.hid (HL.out.trans hl)
      replace HK1 := Lib.hid (HK1.out.trans hl)
      clear hl
      go_wp2_with fail
      have hlb := fun q => lessBytes_any (some ⟨g', o' + p, none⟩) (n0 - p) (c0 - p) 0 _ (fun i => T0 (p + i)) (some ⟨g', o' + p', none⟩) (n0 - p') (c0 - p') 0 _ (fun i => T0 (p' + i)) (w4.drewN q) (by omega) (by omega) (Rd.drewN (R0.part H0.out.rd p n0 (Nat.le_refl _)) q) (Rd.drewN (R0.part H0.out.rd p' n0 (Nat.le_refl _)) q)
      have hsr : suf (fun i => T0 (p + i)) (n0 - p) 0 < suf (fun i => T0 (p' + i)) (n0 - p') 0 := by rw [suf_shift, suf_shift]; exact HSR.out
      simp only [decide_eq_true hsr] at hlb
      have HLB := Lib.hid hlb
      clear hlb hsr HSR
      have g1 : decide ((p : Int) < 0) = false := decide_eq_false (by omega)
      have g2 : decide ((p' : Int) < 0) = false := decide_eq_false (by omega)
      have g3 : decide (n0 ≤ p) = false := decide_eq_false (by omega)
      have g4 : decide (n0 ≤ p') = false := decide_eq_false (by omega)
      have a1 : (0 : Int) ≤ (p : Int) := by omega
      have a2 : (p : Int) ≤ (n0 : Int) := by omega
      have a3 : (n0 : Int) ≤ (c0 : Int) := by omega
      have a4 : ¬ c0 = p := by omega
      have a5 : (0 : Int) ≤ (p' : Int) := by omega
      have a6 : (p' : Int) ≤ (n0 : Int) := by omega
      have a7 : ¬ c0 = p' := by omega
      go_quiet ((go_at_call 31; exact Calls.quiet_of (HLB.out _)))
      obtain ⟨w5, hwq⟩ : ∃ wq, wq = w4.drewN nq := ⟨_, rfl⟩
      rw [← hwq]
      have hl : Le w4 w5 := by rw [hwq]; exact Le.drew _ _
      clear hwq
      replace H0 := Lib.hid (H0.out.le hl)
      replace H1 := Lib.hid (H1.out.le hl)
      replace Y0 := Lib.hid (Y0.out.le hl)
      replace Y1 := Lib.hid (Y1.out.le hl)
      replace R1 := Lib.hid (R1.out.le hl)
      replace HG := Lib.hid (HG.out.le hl)
      replace HL := Lib.hid (HL.out.trans hl)
      replace HK1 := Lib.hid (HK1.out.trans hl)
      clear hl
      go_wp2
      go_roundg ((k - 1) - (t + 1) + 1)
      case rel => exact ⟨⟨t + 1, by omega, by go_num, HK1.out⟩, by simp only [intOf]; omega⟩
      case measure => omega
    · obtain rfl : t = (k - 1) := by omega
      go_wp2_with fail
      refine (occurrences0 H0.out H1.out).mono ?_
      rintro _ w4 ⟨A2, c2, rfl, hl⟩
      replace H0 := Lib.hid (H0.out.le hl)
      replace H1 := Lib.hid (H1.out.le hl)
      replace Y0 := Lib.hid (Y0.out.le hl)
      replace Y1 := Lib.hid (Y1.out.le hl)
      replace R1 := Lib.hid (R1.out.le hl)
      replace HG := Lib.hid (HG.out.le hl)
      replace HL := Lib.hid (HL.out.trans hl)
      replace HK1 := Lib.hid (HK1.out.trans hl)
      clear hl
      rw [HKE.out]
      go_wp2
      go_ret
      exact ⟨rfl, HL.out⟩
end Go.Proofs.YtncoihekfmponaaDoor
