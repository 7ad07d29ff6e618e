/- The law FnTooLong: its walk. Printed by walks.py. -/
import Derived.Test.YtclebgpnfinppaaDoorL4
namespace Go.Proofs.YtclebgpnfinppaaDoor
open Go.RowKit Sa

set_option maxHeartbeats 1000000 in
set_option maxRecDepth 100000 in
theorem fnTooLong_walk {A0 : Option Addr} {n0 c0 : Nat} {T0 : Nat → Nat} {A1 : Option Addr} {n1 c1 : Nat} {T1 : Nat → Nat} (w : World) (h0 : Bs w A0 n0 c0 T0) (h1 : Bs w A1 n1 c1 T1) (hg : MaxOk w) (_hsz : n0 + n1 < 1048576) :
    Calls Tryd.prog 4 #[.slice A0 n0 c0, .slice A1 n1 c1] w fun e w' => e = .returned (.bool true) ∧ Le w w' := by
  have hs0 := h0.sm
  have H0 := Lib.hid h0
  clear h0
  have hs1 := h1.sm
  have H1 := Lib.hid h1
  clear h1
  have HG := Lib.hid hg
  have HL := Lib.hid (Le.refl w)
  clear hg
  by_cases hn : n0 = 0
  · subst hn
    go_enter Tryd.func4, Tryd.ntmps4
    go_wp2
    go_ret
    exact ⟨rfl, HL.out⟩
  · have hn1 : ((n0 : Int) == 0) = false := beq_eq_false_iff_ne.2 (by omega)
    by_cases hm : n1 = 0
    · subst hm
      go_enter Tryd.func4, Tryd.ntmps4
      go_wp2
      go_ret
      exact ⟨rfl, HL.out⟩
    · have hm1 : ((n1 : Int) == 0) = false := beq_eq_false_iff_ne.2 (by omega)
      have ho : occ T0 n0 (cat T0 n0 T1) (n0 + n1) n0 = 0 := occ_none (fun p hp => by have := hp.1; omega)
      have HO := Lib.hid ho
      clear ho
      go_enter Tryd.func4, Tryd.ntmps4
      go_wp2_with fail
      refine (qJoin0 H0.out H1.out (by omega)).mono ?_
      rintro _ w1 ⟨AJ, cJ, rfl, hb, hl⟩
      replace H0 := Lib.hid (H0.out.le hl)
      replace H1 := Lib.hid (H1.out.le hl)
      replace HG := Lib.hid (HG.out.le hl)
      replace HL := Lib.hid (HL.out.trans hl)
      have J := Lib.hid hb
      clear hl hb
      go_wp2_with fail
      refine (lookup0 H0.out J.out HG.out (-1) (by omega) (by omega)).mono ?_
      rintro _ w2 ⟨AR1, cR1, rfl, hsa, hb, hl⟩
      replace H0 := Lib.hid (H0.out.le hl)
      replace H1 := Lib.hid (H1.out.le hl)
      replace J := Lib.hid (J.out.le hl)
      replace HG := Lib.hid (HG.out.le hl)
      replace HL := Lib.hid (HL.out.trans hl)
      have R1 := Lib.hid hb
      clear hl hb
      have HSA := Lib.hid hsa
      clear hsa
      rw [num_neg (by omega), HO.out] at R1 ⊢
      go_wp2_with fail
      refine (nil0 H0.out J.out HG.out (-1) (by omega) (by omega)).mono ?_
      rintro _ w3 ⟨rfl, hl⟩
      replace H0 := Lib.hid (H0.out.le hl)
      replace H1 := Lib.hid (H1.out.le hl)
      replace J := Lib.hid (J.out.le hl)
      replace R1 := Lib.hid (R1.out.le hl)
      replace HG := Lib.hid (HG.out.le hl)
      replace HL := Lib.hid (HL.out.trans hl)
      clear hl
      rw [decide_eq_true (show num T0 n0 (cat T0 n0 T1) (n0 + n1) (-1) = 0 by rw [num_neg (by omega), HO.out])]
      go_wp2_with fail
      refine (marks0 J.out H0.out HG.out).mono ?_
      rintro _ w4 ⟨AM1, rfl, hb, hl⟩
      replace H0 := Lib.hid (H0.out.le hl)
      replace H1 := Lib.hid (H1.out.le hl)
      replace J := Lib.hid (J.out.le hl)
      replace R1 := Lib.hid (R1.out.le hl)
      replace HG := Lib.hid (HG.out.le hl)
      replace HL := Lib.hid (HL.out.trans hl)
      have M1 := Lib.hid hb
      clear hl hb
      go_wp2_with fail
      refine (qMark0 M1.out 0 (by omega) (by omega)).mono ?_
      rintro _ w5 ⟨rfl, hl⟩
      replace H0 := Lib.hid (H0.out.le hl)
      replace H1 := Lib.hid (H1.out.le hl)
      replace J := Lib.hid (J.out.le hl)
      replace R1 := Lib.hid (R1.out.le hl)
      replace M1 := Lib.hid (M1.out.le hl)
      replace HG := Lib.hid (HG.out.le hl)
      replace HL := Lib.hid (HL.out.trans hl)
      clear hl
      rw [show (0 : Int) = ((0 : Nat) : Int) from rfl, qm_in (by omega), mrk_iff.2 ⟨by omega, two_first ⟨by omega, fun i _ => by rw [Nat.zero_add]⟩⟩]
      go_wp2
      go_ret
      exact ⟨rfl, HL.out⟩
end Go.Proofs.YtclebgpnfinppaaDoor
