/- The law FnWrittenTells: its walk. Printed by walks.py. -/
import Derived.Test.YtpkgkppehefibaaDoorWF
import Derived.Test.YtpkgkppehefibaaDoorH8
namespace Go.Proofs.YtpkgkppehefibaaDoor
open Go.RowKit Sa

set_option maxHeartbeats 1000000 in
set_option maxRecDepth 100000 in
theorem fnWrittenTells_walk {A0 : Option Addr} {n0 c0 : Nat} {T0 : Nat → Nat} {A1 : Option Addr} {n1 c1 : Nat} {T1 : Nat → Nat} (w : World) (h0 : Bs w A0 n0 c0 T0) (h1 : Bs w A1 n1 c1 T1) (hg : MaxOk w) (_hsz : n0 + n1 < 1048576) :
    Calls Tryd.prog 6 #[.slice A0 n0 c0, .slice A1 n1 c1] w fun e w' => e = .returned (.bool true) ∧ Le w w' := by
  have hs0 := h0.sm
  have H0 := Lib.hid h0
  clear h0
  have hs1 := h1.sm
  have H1 := Lib.hid h1
  clear h1
  have HG := Lib.hid hg
  have HL := Lib.hid (Le.refl w)
  clear hg
  go_enter Tryd.func6, Tryd.ntmps6
  go_wp2_with fail
  refine (copied0 H0.out).mono ?_
  rintro _ w1 ⟨AY0, cY0, rfl, hb, hl⟩
  replace H0 := Lib.hid (H0.out.le hl)
  replace H1 := Lib.hid (H1.out.le hl)
  replace HG := Lib.hid (HG.out.le hl)
  replace HL := Lib.hid (HL.out.trans hl)
  have Y0 := Lib.hid hb
  clear hl hb
  go_wp2_with fail
  refine (written_any _ _ _ _ _ Y0.out (by omega) HG.out).mono ?_
  rintro _ w2 ⟨AX0, lX0, cX0, FX0, rfl, hb, hwt, hl⟩
  replace H0 := Lib.hid (H0.out.le hl)
  replace H1 := Lib.hid (H1.out.le hl)
  replace Y0 := Lib.hid (Y0.out.le hl)
  replace HG := Lib.hid (HG.out.le hl)
  replace HL := Lib.hid (HL.out.trans hl)
  have X0 := Lib.hid hb
  clear hl hb
  have WX0 := Lib.hid hwt
  clear hwt
  go_wp2_with fail
  refine (copied0 H1.out).mono ?_
  rintro _ w3 ⟨AY1, cY1, rfl, hb, hl⟩
  replace H0 := Lib.hid (H0.out.le hl)
  replace H1 := Lib.hid (H1.out.le hl)
  replace Y0 := Lib.hid (Y0.out.le hl)
  replace X0 := Lib.hid (X0.out.le hl)
  replace HG := Lib.hid (HG.out.le hl)
  replace HL := Lib.hid (HL.out.trans hl)
  have Y1 := Lib.hid hb
  clear hl hb
  go_wp2_with fail
  refine (written_any _ _ _ _ _ Y1.out (by omega) HG.out).mono ?_
  rintro _ w4 ⟨AZ0, lZ0, cZ0, FZ0, rfl, hb, hwt, hl⟩
  replace H0 := Lib.hid (H0.out.le hl)
  replace H1 := Lib.hid (H1.out.le hl)
  replace Y0 := Lib.hid (Y0.out.le hl)
  replace X0 := Lib.hid (X0.out.le hl)
  replace Y1 := Lib.hid (Y1.out.le hl)
  replace HG := Lib.hid (HG.out.le hl)
  replace HL := Lib.hid (HL.out.trans hl)
  have Z0 := Lib.hid hb
  clear hl hb
  have WZ0 := Lib.hid hwt
  clear hwt
  go_wp2_with fail
  refine (sameBytes0 H0.out H1.out).mono ?_
  rintro _ w5 ⟨rfl, hl⟩
  replace H0 := Lib.hid (H0.out.le hl)
  replace H1 := Lib.hid (H1.out.le hl)
  replace Y0 := Lib.hid (Y0.out.le hl)
  replace X0 := Lib.hid (X0.out.le hl)
  replace Y1 := Lib.hid (Y1.out.le hl)
  replace Z0 := Lib.hid (Z0.out.le hl)
  replace HG := Lib.hid (HG.out.le hl)
  replace HL := Lib.hid (HL.out.trans hl)
  clear hl
  by_cases he : n0 = n1 ∧ ∀ i, i < n0 → T0 i = T1 i
  · rw [decide_eq_true he]
    clear he
    go_wp2
    go_ret
    exact ⟨rfl, HL.out⟩
  · rw [decide_eq_false he]
    have HE := Lib.hid he
    clear he
    go_wp2_with fail
    refine (sameBytes0 X0.out Z0.out).mono ?_
    rintro _ w6 ⟨rfl, hl⟩
    replace H0 := Lib.hid (H0.out.le hl)
    replace H1 := Lib.hid (H1.out.le hl)
    replace Y0 := Lib.hid (Y0.out.le hl)
    replace X0 := Lib.hid (X0.out.le hl)
    replace Y1 := Lib.hid (Y1.out.le hl)
    replace Z0 := Lib.hid (Z0.out.le hl)
    replace HG := Lib.hid (HG.out.le hl)
    replace HL := Lib.hid (HL.out.trans hl)
    clear hl
    rw [decide_eq_false (fun h => HE.out (WX0.out.tells WZ0.out (by omega) (by omega) h))]
    go_wp2
    go_ret
    exact ⟨rfl, HL.out⟩
end Go.Proofs.YtpkgkppehefibaaDoor
