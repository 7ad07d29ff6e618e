/- The law FnLookupSome: its walk. Printed by walks.py. -/
import Derived.Test.YtclebgpnfinppaaDoorL4
namespace Go.Proofs.YtclebgpnfinppaaDoor
open Go.RowKit Sa

set_option maxHeartbeats 1000000 in
set_option maxRecDepth 100000 in
theorem fnLookupSome_walk {A0 : Option Addr} {n0 c0 : Nat} {T0 : Nat → Nat} {A1 : Option Addr} {n1 c1 : Nat} {T1 : Nat → Nat} (x2 : Int) (w : World) (h0 : Bs w A0 n0 c0 T0) (h1 : Bs w A1 n1 c1 T1) (h2 : -9223372036854775808 ≤ x2 ∧ x2 ≤ 9223372036854775807) (hg : MaxOk w) (_hsz : n0 + n1 < 1048576) :
    Calls Tryd.prog 6 #[.slice A0 n0 c0, .slice A1 n1 c1, .int .i64 x2] w fun e w' => e = .returned (.bool true) ∧ Le w w' := by
  have hs0 := h0.sm
  have H0 := Lib.hid h0
  clear h0
  have hs1 := h1.sm
  have H1 := Lib.hid h1
  clear h1
  obtain ⟨h2a, h2b⟩ := h2
  have HG := Lib.hid hg
  have HL := Lib.hid (Le.refl w)
  clear hg
  have hoc : occ T0 n0 T1 n1 n0 ≤ n0 := occ_le
  by_cases hx0 : x2 = 0
  · subst hx0
    go_enter Tryd.func6, Tryd.ntmps6
    go_wp2
    go_ret
    exact ⟨rfl, HL.out⟩
  · have hx1 : (x2 == 0) = false := beq_eq_false_iff_ne.2 hx0
    go_enter Tryd.func6, Tryd.ntmps6
    go_wp2_with fail
    refine (occurrences0 H0.out H1.out).mono ?_
    rintro _ w1 ⟨A2, c2, rfl, hl⟩
    replace H0 := Lib.hid (H0.out.le hl)
    replace H1 := Lib.hid (H1.out.le hl)
    replace HG := Lib.hid (HG.out.le hl)
    replace HL := Lib.hid (HL.out.trans hl)
    clear hl
    by_cases ho : occ T0 n0 T1 n1 n0 = 0
    · rw [ho] at *
      go_wp2
      go_ret
      exact ⟨rfl, HL.out⟩
    · have ho1 : (((occ T0 n0 T1 n1 n0 : Nat) : Int) == 0) = false := beq_eq_false_iff_ne.2 (by omega)
      have hnum : 0 < num T0 n0 T1 n1 x2 := by unfold num; split <;> omega
      have hnum2 : num T0 n0 T1 n1 x2 ≤ n0 := Nat.le_trans num_le occ_le
      have HN := Lib.hid hnum
      go_wp2_with fail
      refine (copied0 H0.out).mono ?_
      rintro _ w2 ⟨AY0, cY0, rfl, hb, hl⟩
      replace H0 := Lib.hid (H0.out.le hl)
      replace H1 := Lib.hid (H1.out.le hl)
      replace HG := Lib.hid (HG.out.le hl)
      replace HL := Lib.hid (HL.out.trans hl)
      have Y0 := Lib.hid hb
      clear hl hb
      go_wp2_with fail
      refine (copied0 H1.out).mono ?_
      rintro _ w3 ⟨AY1, cY1, rfl, hb, hl⟩
      replace H0 := Lib.hid (H0.out.le hl)
      replace H1 := Lib.hid (H1.out.le hl)
      replace Y0 := Lib.hid (Y0.out.le hl)
      replace HG := Lib.hid (HG.out.le hl)
      replace HL := Lib.hid (HL.out.trans hl)
      have Y1 := Lib.hid hb
      clear hl hb
      go_wp2_with fail
      refine (lookup0 Y0.out Y1.out HG.out x2 (by omega) (by omega)).mono ?_
      rintro _ w4 ⟨AR1, cR1, rfl, hsa, hb, hl⟩
      replace H0 := Lib.hid (H0.out.le hl)
      replace H1 := Lib.hid (H1.out.le hl)
      replace Y0 := Lib.hid (Y0.out.le hl)
      replace Y1 := Lib.hid (Y1.out.le hl)
      replace HG := Lib.hid (HG.out.le hl)
      replace HL := Lib.hid (HL.out.trans hl)
      have R1 := Lib.hid hb
      clear hl hb
      have HSA := Lib.hid hsa
      clear hsa
      have hnum3 : (0 : Int) < ((num T0 n0 T1 n1 x2 : Nat) : Int) := by omega
      go_wp2_with fail
      refine (copied0 H0.out).mono ?_
      rintro _ w5 ⟨AY2, cY2, rfl, hb, hl⟩
      replace H0 := Lib.hid (H0.out.le hl)
      replace H1 := Lib.hid (H1.out.le hl)
      replace Y0 := Lib.hid (Y0.out.le hl)
      replace Y1 := Lib.hid (Y1.out.le hl)
      replace R1 := Lib.hid (R1.out.le hl)
      replace HG := Lib.hid (HG.out.le hl)
      replace HL := Lib.hid (HL.out.trans hl)
      have Y2 := Lib.hid hb
      clear hl hb
      go_wp2_with fail
      refine (copied0 H1.out).mono ?_
      rintro _ w6 ⟨AY3, cY3, rfl, hb, hl⟩
      replace H0 := Lib.hid (H0.out.le hl)
      replace H1 := Lib.hid (H1.out.le hl)
      replace Y0 := Lib.hid (Y0.out.le hl)
      replace Y1 := Lib.hid (Y1.out.le hl)
      replace R1 := Lib.hid (R1.out.le hl)
      replace Y2 := Lib.hid (Y2.out.le hl)
      replace HG := Lib.hid (HG.out.le hl)
      replace HL := Lib.hid (HL.out.trans hl)
      have Y3 := Lib.hid hb
      clear hl hb
      go_wp2_with fail
      refine (nil0 Y2.out Y3.out HG.out _ (by omega) (by omega)).mono ?_
      rintro _ w7 ⟨rfl, hl⟩
      replace H0 := Lib.hid (H0.out.le hl)
      replace H1 := Lib.hid (H1.out.le hl)
      replace Y0 := Lib.hid (Y0.out.le hl)
      replace Y1 := Lib.hid (Y1.out.le hl)
      replace R1 := Lib.hid (R1.out.le hl)
      replace Y2 := Lib.hid (Y2.out.le hl)
      replace Y3 := Lib.hid (Y3.out.le hl)
      replace HG := Lib.hid (HG.out.le hl)
      replace HL := Lib.hid (HL.out.trans hl)
      clear hl
      rw [decide_eq_false (show ¬ num T0 n0 T1 n1 x2 = 0 by have := HN.out; omega)]
      go_wp2
      go_ret
      exact ⟨rfl, HL.out⟩
end Go.Proofs.YtclebgpnfinppaaDoor
