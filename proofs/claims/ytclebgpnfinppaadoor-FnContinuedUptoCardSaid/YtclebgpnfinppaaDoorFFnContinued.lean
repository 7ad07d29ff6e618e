/- The law FnContinued: its walk. Printed by walks.py. -/
import Derived.Test.YtclebgpnfinppaaDoorH6
namespace Go.Proofs.YtclebgpnfinppaaDoor
open Go.RowKit Sa

set_option maxHeartbeats 4000000 in
set_option maxRecDepth 100000 in
theorem fnContinued_walk {A0 : Option Addr} {n0 c0 : Nat} {T0 : Nat → Nat} {A1 : Option Addr} {n1 c1 : Nat} {T1 : Nat → Nat} (w : World) (h0 : Bs w A0 n0 c0 T0) (h1 : Bs w A1 n1 c1 T1) (hg : MaxOk w) (_hsz : n0 + n1 < 1048576) :
    Calls Tryd.prog 10 #[.slice A0 n0 c0, .slice A1 n1 c1] w fun e w' => e = .returned (.bool true) ∧ Le w w' := by
  have hs0 := h0.sm
  have H0 := Lib.hid h0
  clear h0
  have hs1 := h1.sm
  have H1 := Lib.hid h1
  clear h1
  have HG := Lib.hid hg
  have HL := Lib.hid (Le.refl w)
  clear hg
  by_cases hm : n1 = 0
  · subst hm
    go_enter Tryd.func10, Tryd.ntmps10
    go_wp2
    go_ret
    exact ⟨rfl, HL.out⟩
  · have hm1 : ((n1 : Int) == 0) = false := beq_eq_false_iff_ne.2 (by omega)
    have OB := H1
    have O0 := H0
    obtain ⟨w1, hw1⟩ : ∃ w1, w1 = w.alloc (.cells #[.slice A1 n1 c1] 22) := ⟨_, rfl⟩
    have hrl := rows_lit (S := consB T1 n1) (m := consM n1) (w := w) (A := A1) (n := n1) (c := c1) H1.out.rd rfl H1.out.nc (by simp only [maxLen]; omega)
    rw [← hw1] at hrl
    have hl : Le w w1 := by rw [hw1]; exact (Below.refl _ _).alloc (Nat.le_refl _) _
    have HRL := Lib.hid hrl
    have HW1 := Lib.hid hw1
    have HB1 := Lib.hid hl
    clear hrl hw1 hl
    go_enter Tryd.func10, Tryd.ntmps10
    go_wp2_with fail
    rw [← HW1.out]
    go_loopg [5, 6] (256 + 1) (fun gk ov iv wr => (∃ (t : Nat) (B' : Nat → Option Addr) (e' : Nat → Nat), t ≤ 256 ∧ iv = .int .i64 (t : Int) ∧ Rows1 wr 0 w.heap.size 22 ov (t + 1) B' (consM n1) e' (fun j => bv (consB T1 n1 j)) ∧ Le w wr) ∧ 256 - (intOf iv).toNat < gk)
    case atStart => exact ⟨⟨0, _, _, by omega, rfl, HRL.out, HB1.out⟩, by simp [intOf]⟩
    case round =>
      clear HRL HW1 HB1
      obtain ⟨⟨t, B', e', ht, rfl, hrow, hl⟩, hgk⟩ := hrel
      simp only [intOf, Int.toNat_natCast] at hgk
      obtain ⟨w2, hwr⟩ : ∃ x, x = wr := ⟨_, rfl⟩
      subst hwr
      have HB0 := Lib.hid hl
      replace H0 := Lib.hid (H0.out.le hl)
      replace H1 := Lib.hid (H1.out.le hl)
      replace HG := Lib.hid (HG.out.le hl)
      replace HL := Lib.hid (HL.out.trans hl)
      have HR := Lib.hid hrow
      clear hrow hl
      by_cases hlt : t < 256
      · go_wp2_with fail
        refine (qCopyOwn0 H1.out).mono ?_
        rintro _ wx ⟨vx, rfl, ho, hlx⟩
        obtain ⟨A4, c4, w4, hr4, hrd4, hnc4, hbl4⟩ := add1r ho hlx.size (by omega) t
        have hl4 : Le w2 w4 := Below.trans hlx hbl4
        obtain ⟨v5, w5, hr5, ho5, hb5, hk5⟩ := addSB w4 w.heap.size u5 (t + 1) _ (HR.out.le hl4).own (by omega) (Nat.le_trans HB0.out.size hl4.size) A4 (n1 + 1) c4
        have HR5 := Lib.hid ((HR.out.le hl4).snoc ho5 hk5 (hrd4.mono (Nat.zero_le _) (Nat.le_refl _)) (FarR.new HR.out.own hrd4) rfl hnc4)
        have HB5 : Hid (Le w w5) := Lib.hid (Below.trans (HB0.out.trans hl4) hb5)
        have HRUN4 := Lib.hid hr4
        have HRUN5 := Lib.hid hr5
        clear ho hlx hr4 hrd4 hnc4 hbl4 hl4 hr5 ho5 hb5 hk5 HR
        have hby : ((t : Nat) : Int) % 256 = (t : Int) := by omega
        go_wp2_with (first | (at_builtin; refine wpList_append_run rfl rfl rfl rfl HRUN4.out ?_) | (at_builtin; refine wpList_append_run rfl rfl rfl rfl HRUN5.out ?_))
        go_roundg (256 - (t + 1) + 1)
        case rel => exact ⟨⟨t + 1, _, _, by omega, by go_num, HR5.out, HB5.out⟩, by simp only [intOf]; omega⟩
        case measure => omega
      · obtain rfl : 256 = t := by omega
        obtain ⟨AL, cL, he, hb⟩ := HR.out.bss (fun j hj i hi => by cases j with | zero => exact OB.out.lt i hi | succ j => exact cat_lt OB.out.lt (fun _ _ => (show j < 256 by omega)) i hi) (fun j hj => by cases j with | zero => exact hs1 | succ j => show n1 + 1 < _; omega) (by omega)
        subst he
        have LST := Lib.hid hb
        clear hb HR HB0
        go_wp2_with fail
        refine (manyCounts_any H0.out LST.out (by omega) HG.out).mono ?_
        rintro _ w3 ⟨AC, cC, rfl, hnc, hsa, hwc, hl⟩
        replace H0 := Lib.hid (H0.out.le hl)
        replace H1 := Lib.hid (H1.out.le hl)
        replace LST := Lib.hid (LST.out.le hl)
        replace HG := Lib.hid (HG.out.le hl)
        replace HL := Lib.hid (HL.out.trans hl)
        clear hl
        have CC : Hid (Is _ AC 257 cC _) := Lib.hid ⟨hwc.r0, hnc, by omega⟩
        clear hwc hsa
        obtain ⟨g, o, rfl, _, _, hg3⟩ := Rd.c CC.out.rd (by omega)
        have hc0 := hg3 0 (by omega)
        simp only [iv, Nat.add_zero, consB, consM] at hc0
        clear hg3
        have hcap : ¬ cC = 1 := by omega
        have hcap2 : (257 : Int) ≤ (cC : Int) := by omega
        have hcont := continued (T := T0) (S := T1) (n := n0) (m := n1) (by omega) O0.out.lt
        have hol : occ T0 n0 T1 n1 n0 ≤ n0 := occ_le
        have hsum : ∀ k, k ≤ 256 → sumN (fun b => occ T0 n0 (cat T1 n1 fun _ => b) (n1 + 1) n0) k ≤ n0 := fun k hk => by have := sumN_mono (f := fun b => occ T0 n0 (cat T1 n1 fun _ => b) (n1 + 1) n0) hk; omega
        have HCO := Lib.hid hcont
        have HSUM := Lib.hid hsum
        clear hcont hsum
        go_wp2_with fail
        go_loopg [8, 38] (256 + 1) (fun gk sv iv wr => (∃ t : Nat, t ≤ 256 ∧ iv = .int .i64 (t : Int) ∧ sv = .int .i64 ((sumN (fun b => occ T0 n0 (cat T1 n1 fun _ => b) (n1 + 1) n0) t : Nat) : Int) ∧ Le w3 wr) ∧ 256 - (intOf iv).toNat < gk)
        case atStart => exact ⟨⟨0, by omega, rfl, rfl, Le.refl _⟩, by simp [intOf]⟩
        case round =>
          obtain ⟨⟨t, ht, rfl, rfl, hl⟩, hgk⟩ := hrel
          simp only [intOf, Int.toNat_natCast] at hgk
          obtain ⟨w8, hwr⟩ : ∃ x, x = wr := ⟨_, rfl⟩
          subst hwr
          replace H0 := Lib.hid (H0.out.le hl)
          replace H1 := Lib.hid (H1.out.le hl)
          replace LST := Lib.hid (LST.out.le hl)
          replace CC := Lib.hid (CC.out.le hl)
          replace HG := Lib.hid (HG.out.le hl)
          replace HL := Lib.hid (HL.out.trans hl)
          have HKS := Lib.hid hl
          clear hl
          by_cases hlt : t < 256
          · obtain ⟨g', o', e', _, _, hg3⟩ := Rd.c CC.out.rd (by omega)
            injection e' with e'; injection e' with e1 e2
            subst e1; subst e2
            have hc1 := hg3 (1 + t) (by omega)
            rw [Nat.add_comm 1 t] at hc1
            simp only [iv, consB, consM] at hc1
            rw [show o + (t + 1) = o + 1 + t by omega] at hc1
            clear hg3
            have hb1 := HSUM.out t (by omega)
            have hb2 : occ T0 n0 (cat T1 n1 fun _ => t) (n1 + 1) n0 ≤ n0 := occ_le
            have hst : sumN (fun b => occ T0 n0 (cat T1 n1 fun _ => b) (n1 + 1) n0) (t + 1) = sumN (fun b => occ T0 n0 (cat T1 n1 fun _ => b) (n1 + 1) n0) t + occ T0 n0 (cat T1 n1 fun _ => t) (n1 + 1) n0 := rfl
            have HST := Lib.hid hst
            clear hst
            generalize sumN (fun b => occ T0 n0 (cat T1 n1 fun _ => b) (n1 + 1) n0) t = x at *
            generalize occ T0 n0 (cat T1 n1 fun _ => t) (n1 + 1) n0 = y at *
            go_wp2
            go_roundg (256 - (t + 1) + 1)
            case rel => exact ⟨⟨t + 1, by omega, by go_num, by rw [HST.out]; go_num, HKS.out⟩, by simp only [intOf]; omega⟩
            case measure => omega
          · obtain rfl : 256 = t := by omega
            have hb1 := HSUM.out 256 (by omega)
            have hco := HCO.out
            generalize sumN (fun b => occ T0 n0 (cat T1 n1 fun _ => b) (n1 + 1) n0) 256 = x at *
            have hc2 : True := trivial
            by_cases hmn : n1 ≤ n0
            · have hzz : (n0 : Int) - (n1 : Int) = ((n0 - n1 : Nat) : Int) := by omega
              have HCO2 := Lib.hid hco
              clear hco HCO HSUM hc0
              go_wp2_with fail
              try rw [hzz]
              refine (qStands0 H0.out H1.out (n0 - n1) (by omega)).mono ?_
              rintro _ w9 ⟨rfl, hl⟩
              replace H0 := Lib.hid (H0.out.le hl)
              replace H1 := Lib.hid (H1.out.le hl)
              replace LST := Lib.hid (LST.out.le hl)
              replace CC := Lib.hid (CC.out.le hl)
              replace HG := Lib.hid (HG.out.le hl)
              replace HL := Lib.hid (HL.out.trans hl)
              clear hl
              by_cases hst : stands T0 n0 T1 n1 (n0 - n1)
              · have hcc := HCO2.out
                rw [if_pos ⟨hmn, hst⟩] at hcc
                rw [decide_eq_true hst]
                have HCC := Lib.hid hcc
                clear hst hcc HCO2
                obtain ⟨g', o', e', _, _, hg3⟩ := Rd.c CC.out.rd (by omega)
                injection e' with e'; injection e' with e1 e2
                subst e1; subst e2
                have hc3 := hg3 0 (by omega)
                simp only [iv, Nat.add_zero, consB, consM] at hc3
                rw [HCC.out] at hc3
                clear hg3 hc2
                go_wp2
                go_ret
                exact ⟨by first | rfl | simp, HL.out⟩
              · have hcc := HCO2.out
                rw [if_neg (fun h => hst h.2)] at hcc
                rw [decide_eq_false hst]
                have HCC := Lib.hid hcc
                clear hst hcc HCO2
                obtain ⟨g', o', e', _, _, hg3⟩ := Rd.c CC.out.rd (by omega)
                injection e' with e'; injection e' with e1 e2
                subst e1; subst e2
                have hc3 := hg3 0 (by omega)
                simp only [iv, Nat.add_zero, consB, consM] at hc3
                rw [HCC.out] at hc3
                clear hg3 hc2
                go_wp2
                go_ret
                exact ⟨by first | rfl | simp, HL.out⟩
            · rw [if_neg (fun h => hmn h.1)] at hco
              have HCC := Lib.hid hco
              have hng : (n0 : Int) - (n1 : Int) < 0 := by omega
              clear hco HCO HSUM hc0 hc2
              go_wp2_with fail
              refine (qStands_neg0 A0 n0 c0 A1 n1 c1 ((n0 : Int) - (n1 : Int)) w8 hng).mono ?_
              rintro _ w9 ⟨rfl, hl⟩
              replace H0 := Lib.hid (H0.out.le hl)
              replace H1 := Lib.hid (H1.out.le hl)
              replace LST := Lib.hid (LST.out.le hl)
              replace CC := Lib.hid (CC.out.le hl)
              replace HG := Lib.hid (HG.out.le hl)
              replace HL := Lib.hid (HL.out.trans hl)
              clear hl
              have hc2 : True := trivial
              obtain ⟨g', o', e', _, _, hg3⟩ := Rd.c CC.out.rd (by omega)
              injection e' with e'; injection e' with e1 e2
              subst e1; subst e2
              have hc3 := hg3 0 (by omega)
              simp only [iv, Nat.add_zero, consB, consM] at hc3
              rw [HCC.out] at hc3
              clear hg3 hc2
              go_wp2
              go_ret
              exact ⟨by first | rfl | simp, HL.out⟩
end Go.Proofs.YtclebgpnfinppaaDoor
