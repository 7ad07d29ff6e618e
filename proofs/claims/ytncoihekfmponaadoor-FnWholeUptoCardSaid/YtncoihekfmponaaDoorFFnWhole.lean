/- The law FnWhole: its walk. Printed by walks.py. -/
import Derived.Test.YtncoihekfmponaaDoorH1
namespace Go.Proofs.YtncoihekfmponaaDoor
open Go.RowKit Sa

set_option maxHeartbeats 1000000 in
set_option maxRecDepth 100000 in
theorem fnWhole_walk {A0 : Option Addr} {n0 c0 : Nat} {T0 : Nat → Nat} (w : World) (h0 : Bs w A0 n0 c0 T0) (hg : MaxOk w) (_hsz : n0 < 1048576) :
    Calls Tryd.prog 14 #[.slice A0 n0 c0] w fun e w' => e = .returned (.bool true) ∧ Le w w' := by
  have hs0 := h0.sm
  have H0 := Lib.hid h0
  clear h0
  have HG := Lib.hid hg
  have HL := Lib.hid (Le.refl w)
  clear hg
  by_cases hn : n0 = 0
  · subst hn
    go_enter Tryd.func14, Tryd.ntmps14
    go_wp2
    go_ret
    exact ⟨rfl, HL.out⟩
  · have hn1 : ((n0 : Int) == 0) = false := beq_eq_false_iff_ne.2 (by omega)
    go_enter Tryd.func14, Tryd.ntmps14
    go_wp2_with fail
    refine (lookup0 H0.out H0.out HG.out (-1) (by omega) (by omega)).mono ?_
    rintro _ w1 ⟨AR1, cR1, rfl, hsa, hb, hl⟩
    replace H0 := Lib.hid (H0.out.le hl)
    replace HG := Lib.hid (HG.out.le hl)
    replace HL := Lib.hid (HL.out.trans hl)
    have R1 := Lib.hid hb
    clear hl hb
    have HSA := Lib.hid hsa
    clear hsa
    rw [num_neg (by omega)] at *
    obtain ⟨hw1, hw2⟩ := whole_hit HSA.out (by omega : 0 < n0)
    rw [hw1] at R1 ⊢
    obtain ⟨g, o, rfl, _, _, hg3⟩ := Rd.c R1.out.rd (by omega)
    have hc1 := hg3 0 (by omega)
    simp only [iv, hw2, Nat.add_zero] at hc1
    clear hg3 hw1 hw2
    go_wp2
    go_ret
    exact ⟨rfl, HL.out⟩
end Go.Proofs.YtncoihekfmponaaDoor
