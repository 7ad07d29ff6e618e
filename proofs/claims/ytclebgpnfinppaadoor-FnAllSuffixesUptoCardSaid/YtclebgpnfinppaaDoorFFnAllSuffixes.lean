/- The law FnAllSuffixes: its walk. Printed by walks.py. -/
import Derived.Test.YtclebgpnfinppaaDoorH6
namespace Go.Proofs.YtclebgpnfinppaaDoor
open Go.RowKit Sa

set_option maxHeartbeats 8000000 in
set_option maxRecDepth 100000 in
theorem fnAllSuffixes_walk {A0 : Option Addr} {n0 c0 : Nat} {T0 : Nat → Nat} (w : World) (h0 : Bs w A0 n0 c0 T0) (hg : MaxOk w) (_hsz : n0 < 1048576) :
    Calls Tryd.prog 14 #[.slice A0 n0 c0] w fun e w' => e = .returned (.bool true) ∧ Le w w' := by
  have hs0 := h0.sm
  have H0 := Lib.hid h0
  clear h0
  have HG := Lib.hid hg
  have HL := Lib.hid (Le.refl w)
  clear hg
  have OB := H0
  have hcap := H0.out.nc
  go_enter Tryd.func14, Tryd.ntmps14
  go_wp2_with fail
  go_loopg [3, 4] (256 + 1) (fun gk ov iv wr => (∃ (t : Nat) (B' : Nat → Option Addr) (e' : Nat → Nat), t ≤ 256 ∧ iv = .int .i64 (t : Int) ∧ Rows1 wr 0 w.heap.size 22 ov t B' (fun _ => 1) e' (fun j => bv ((fun j _ => j) j)) ∧ Le w wr) ∧ 256 - (intOf iv).toNat < gk)
  case atStart => exact ⟨⟨0, fun _ => none, fun _ => 0, by omega, rfl, Rows1.nil, Le.refl _⟩, by simp [intOf]⟩
  case round =>
    obtain ⟨⟨t, B', e', ht, rfl, hrow, hl⟩, hgk⟩ := hrel
    simp only [intOf, Int.toNat_natCast] at hgk
    obtain ⟨w1, hwr⟩ : ∃ x, x = wr := ⟨_, rfl⟩
    subst hwr
    have HB0 := Lib.hid hl
    replace H0 := Lib.hid (H0.out.le hl)
    replace HG := Lib.hid (HG.out.le hl)
    replace HL := Lib.hid (HL.out.trans hl)
    have HR := Lib.hid hrow
    clear hrow hl
    by_cases hlt : t < 256
    · obtain ⟨v5, w5, B5, e5, hr, hrow, hb⟩ := HR.out.addLit HB0.out.size (Nat.zero_le _) (by omega) t rfl rfl
      have HRUN := Lib.hid hr
      have HR5 := Lib.hid hrow
      have HB5 : Hid (Le w w5) := Lib.hid (Below.trans HB0.out hb)
      clear hr hrow hb
      have hby : ((t : Nat) : Int) % 256 = (t : Int) := by omega
      go_wp2_with (at_builtin; refine wpList_append_run rfl rfl rfl rfl HRUN.out ?_)
      go_roundg (256 - (t + 1) + 1)
      case rel => exact ⟨⟨t + 1, _, _, by omega, by go_num, HR5.out, HB5.out⟩, by simp only [intOf]; omega⟩
      case measure => omega
    · obtain rfl : 256 = t := by omega
      obtain ⟨AL, cL, he, hb⟩ := HR.out.bss (fun j hj i hi => by omega) (fun j hj => by omega) (by omega)
      subst he
      have LST := Lib.hid hb
      clear hb HR HB0
      go_wp2_with fail
      refine (copied0 H0.out).mono ?_
      rintro _ w2 ⟨AY0, cY0, rfl, hb, hl⟩
      replace H0 := Lib.hid (H0.out.le hl)
      replace LST := Lib.hid (LST.out.le hl)
      replace HG := Lib.hid (HG.out.le hl)
      replace HL := Lib.hid (HL.out.trans hl)
      have Y0 := Lib.hid hb
      clear hl hb
      go_wp2_with fail
      refine (many0 Y0.out LST.out (by omega) HG.out (-1) (by omega) (by omega)).mono ?_
      rintro _ w3 ⟨AMM, cMM, BMM, eMM, rfl, hsa, hb, hl⟩
      replace H0 := Lib.hid (H0.out.le hl)
      replace LST := Lib.hid (LST.out.le hl)
      replace Y0 := Lib.hid (Y0.out.le hl)
      replace HG := Lib.hid (HG.out.le hl)
      replace HL := Lib.hid (HL.out.trans hl)
      have MM := Lib.hid hb
      clear hl hb
      have HSA := Lib.hid hsa
      clear hsa
      simp only [num_neg (show (-1 : Int) < 0 by omega)] at MM
      go_wp2_with fail
      go_loopg [5, 26] (256 + 1) (fun gk ov iw wr => (∃ t : Nat, t ≤ 256 ∧ iw = .int .i64 (t : Int) ∧ wr.ownsRow w3.heap.size 3 1 ov (off T0 n0 t) ((List.range (off T0 n0 t)).map (iv fun k => (saOf T0 n0 k : Nat))) ∧ Le w3 wr) ∧ 256 - (intOf iw).toNat < gk)
      case atStart => exact ⟨⟨0, by omega, rfl, by rw [off_zero]; exact nil_own _ _ _, Le.refl _⟩, by simp only [intOf]; omega⟩
      case round =>
        obtain ⟨⟨t, ht, rfl, hown, hl⟩, hgk⟩ := hrel
        simp only [intOf, Int.toNat_natCast] at hgk
        obtain ⟨w4, hwr⟩ : ∃ x, x = wr := ⟨_, rfl⟩
        subst hwr
        have HB6 := Lib.hid hl
        replace H0 := Lib.hid (H0.out.le hl)
        replace LST := Lib.hid (LST.out.le hl)
        replace Y0 := Lib.hid (Y0.out.le hl)
        replace MM := Lib.hid (MM.out.le hl)
        replace HG := Lib.hid (HG.out.le hl)
        replace HL := Lib.hid (HL.out.trans hl)
        have HO := Lib.hid hown
        clear hown hl
        by_cases hlt : t < 256
        · have hoff : off T0 n0 (t + 1) ≤ n0 := off_le
          have hst := off_step (T := T0) (n := n0) t
          obtain ⟨gm, om, rfl, _, _, hg3⟩ := Rd.c MM.out.rd (by omega)
          have hc1 := hg3 t hlt
          clear hg3
          obtain ⟨v5, w5', hr, ho5, hb5⟩ := appendIown w4 w3.heap.size u5 (off T0 n0 t) _ HO.out (MM.out.el t hlt).1 (eMM t) (by omega) HB6.out.size
          rw [range_more (fun i hi => by simp only [iv, hit_single HSA.out hi]), ← hst] at ho5
          have HRUN := Lib.hid hr
          have HO5 := Lib.hid ho5
          have HB5 : Hid (Le w3 w5') := Lib.hid (Below.trans HB6.out hb5)
          clear hr ho5 hb5 hst hoff HO
          go_wp2_with (at_builtin; refine wpList_append_run rfl rfl rfl rfl HRUN.out ?_)
          go_roundg (256 - (t + 1) + 1)
          case rel => exact ⟨⟨t + 1, by omega, by go_num, HO5.out, HB5.out⟩, by simp only [intOf]; omega⟩
          case measure => omega
        · obtain rfl : 256 = t := by omega
          have hall := HO.out
          rw [off_all OB.out.lt] at hall
          obtain ⟨AA, cA, he, h3, h4⟩ := Wr.of_own (f := iv fun k => ((saOf T0 n0 k : Nat) : Int)) hall map_range
          subst he
          have R1 : Hid (Is w4 AA n0 cA (fun k => ((saOf T0 n0 k : Nat) : Int))) := Lib.hid ⟨h4.r0, h3, hs0⟩
          clear hall h3 h4 HO HB6
          have hnn : ((n0 : Int) != (n0 : Int)) = false := by simp
          go_wp2_with fail
          go_loopg [8] ((n0 - 1) + 1) (fun gk iv wr => (∃ t : Nat, t ≤ (n0 - 1) ∧ iv = .int .i64 ((t + 1 : Nat) : Int) ∧ Le w4 wr) ∧ (n0 - 1) + 1 - (intOf iv).toNat < gk)
          case atStart => exact ⟨⟨0, by omega, rfl, Le.refl _⟩, by simp only [intOf]; omega⟩
          case round =>
            obtain ⟨⟨t, ht, rfl, hl⟩, hgk⟩ := hrel
            simp only [intOf, Int.toNat_natCast] at hgk
            obtain ⟨w5, hwr⟩ : ∃ x, x = wr := ⟨_, rfl⟩
            subst hwr
            replace H0 := Lib.hid (H0.out.le hl)
            replace LST := Lib.hid (LST.out.le hl)
            replace Y0 := Lib.hid (Y0.out.le hl)
            replace MM := Lib.hid (MM.out.le hl)
            replace R1 := Lib.hid (R1.out.le hl)
            replace HG := Lib.hid (HG.out.le hl)
            replace HL := Lib.hid (HL.out.trans hl)
            have HK1 := Lib.hid hl
            clear hl
            by_cases hlt : t < (n0 - 1)
            · have hsis := saOf_is HSA.out.choose_spec
              have hi1 := hsis.lt t (by omega)
              have hi2 := hsis.lt (t + 1) (by omega)
              have HSR := Lib.hid (hsis.srt t (t + 1) (by omega) (by omega))
              clear hsis
              obtain ⟨g, o, rfl, _, _, hg3⟩ := Rd.c R1.out.rd (by omega)
              have hc1 := hg3 t (by omega)
              have hc2 := hg3 (t + 1) (by omega)
              simp only [iv] at hc1 hc2
              clear hg3
              obtain ⟨g', o', rfl, _, _, _⟩ := Rd.c H0.out.rd (by omega)
              generalize saOf T0 n0 t = p at *
              generalize saOf T0 n0 (t + 1) = p' at *
              go_wp2_with fail
              go_quiet (fail)
              obtain ⟨w6, hwq⟩ : ∃ wq, wq = w5.drewN nq := ⟨_, rfl⟩
              rw [← hwq]
              have hl : Le w5 w6 := by rw [hwq]; exact Le.drew _ _
              clear hwq
              replace H0 := Lib.hid (H0.out.le hl)
              replace LST := Lib.hid (LST.out.le hl)
              replace Y0 := Lib.hid (Y0.out.le hl)
              replace MM := Lib.hid (MM.out.le hl)
              replace R1 := Lib.hid (R1.out.le hl)
              replace HG := Lib.hid (HG.out.le hl)
              replace HL := Lib.hid (HL.out.trans hl)
              replace HK1 := Lib.hid (HK1.out.trans hl)
              clear hl
              go_wp2_with fail
              have hlb := fun q => lessBytes_any (some ⟨g', o' + p, none⟩) (n0 - p) (c0 - p) 0 _ (fun i => T0 (p + i)) (some ⟨g', o' + p', none⟩) (n0 - p') (c0 - p') 0 _ (fun i => T0 (p' + i)) (w6.drewN q) (by omega) (by omega) (Rd.drewN (R0.part H0.out.rd p n0 (Nat.le_refl _)) q) (Rd.drewN (R0.part H0.out.rd p' n0 (Nat.le_refl _)) q)
              have hsr : suf (fun i => T0 (p + i)) (n0 - p) 0 < suf (fun i => T0 (p' + i)) (n0 - p') 0 := by rw [suf_shift, suf_shift]; exact HSR.out
              simp only [decide_eq_true hsr] at hlb
              have HLB := Lib.hid hlb
              clear hlb hsr HSR
              have g1 : decide ((p : Int) < 0) = false := decide_eq_false (by omega)
              have g2 : decide ((p' : Int) < 0) = false := decide_eq_false (by omega)
              have g3 : decide (n0 ≤ p) = false := decide_eq_false (by omega)
              have g4 : decide (n0 ≤ p') = false := decide_eq_false (by omega)
              have a1 : (0 : Int) ≤ (p : Int) := by omega
              have a2 : (p : Int) ≤ (n0 : Int) := by omega
              have a3 : (n0 : Int) ≤ (c0 : Int) := by omega
              have a4 : ¬ c0 = p := by omega
              have a5 : (0 : Int) ≤ (p' : Int) := by omega
              have a6 : (p' : Int) ≤ (n0 : Int) := by omega
              have a7 : ¬ c0 = p' := by omega
              go_quiet ((go_at_call 46; exact Calls.quiet_of (HLB.out _)))
              obtain ⟨w7, hwq⟩ : ∃ wq, wq = w6.drewN nq := ⟨_, rfl⟩
              rw [← hwq]
              have hl : Le w6 w7 := by rw [hwq]; exact Le.drew _ _
              clear hwq
              replace H0 := Lib.hid (H0.out.le hl)
              replace LST := Lib.hid (LST.out.le hl)
              replace Y0 := Lib.hid (Y0.out.le hl)
              replace MM := Lib.hid (MM.out.le hl)
              replace R1 := Lib.hid (R1.out.le hl)
              replace HG := Lib.hid (HG.out.le hl)
              replace HL := Lib.hid (HL.out.trans hl)
              replace HK1 := Lib.hid (HK1.out.trans hl)
              clear hl
              go_wp2
              go_roundg ((n0 - 1) - (t + 1) + 1)
              case rel => exact ⟨⟨t + 1, by omega, by go_num, HK1.out⟩, by simp only [intOf]; omega⟩
              case measure => omega
            · obtain rfl : (n0 - 1) = t := by omega
              go_wp2
              go_ret
              exact ⟨rfl, HL.out⟩
end Go.Proofs.YtclebgpnfinppaaDoor
