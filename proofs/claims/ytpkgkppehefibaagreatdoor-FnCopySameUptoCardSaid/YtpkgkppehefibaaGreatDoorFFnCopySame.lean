/- The law FnCopySame: its walk. Printed by walks.py. -/
import Derived.Test.YtpkgkppehefibaaGreatDoorWJ
import Derived.Test.YtpkgkppehefibaaGreatDoorH4
import Derived.Test.YtpkgkppehefibaaGreatDoorH8
namespace Go.Proofs.YtpkgkppehefibaaGreatDoor
open Go.RowKit Sa

set_option maxHeartbeats 1000000 in
set_option maxRecDepth 100000 in
theorem fnCopySame_walk {A0 : Option Addr} {n0 c0 : Nat} {T0 : Nat → Nat} {A1 : Option Addr} {n1 c1 : Nat} {T1 : Nat → Nat} (x2 : Int) (w : World) (h0 : Bs w A0 n0 c0 T0) (h1 : Bs w A1 n1 c1 T1) (h2 : -9223372036854775808 ≤ x2 ∧ x2 ≤ 9223372036854775807) (hg : MaxOk w) (_hsz : n0 + n1 < 1048576) :
    Calls Tryz.prog 8 #[.slice A0 n0 c0, .slice A1 n1 c1, .int .i64 x2] w fun e w' => e = .returned (.bool true) ∧ Le w w' := by
  have hs0 := h0.sm
  have H0 := Lib.hid h0
  clear h0
  have hs1 := h1.sm
  have H1 := Lib.hid h1
  clear h1
  obtain ⟨h2a, h2b⟩ := h2
  have HG := Lib.hid hg
  have HL := Lib.hid (Le.refl w)
  clear hg
  go_enter Tryz.func8, Tryz.ntmps8
  go_wp2_with fail
  refine (copied0 H0.out).mono ?_
  rintro _ w1 ⟨AY0, cY0, rfl, hb, hl⟩
  replace H0 := Lib.hid (H0.out.le hl)
  replace H1 := Lib.hid (H1.out.le hl)
  replace HG := Lib.hid (HG.out.le hl)
  replace HL := Lib.hid (HL.out.trans hl)
  have Y0 := Lib.hid hb
  clear hl hb
  go_wp2_with fail
  refine (copied0 H1.out).mono ?_
  rintro _ w2 ⟨AY1, cY1, rfl, hb, hl⟩
  replace H0 := Lib.hid (H0.out.le hl)
  replace H1 := Lib.hid (H1.out.le hl)
  replace Y0 := Lib.hid (Y0.out.le hl)
  replace HG := Lib.hid (HG.out.le hl)
  replace HL := Lib.hid (HL.out.trans hl)
  have Y1 := Lib.hid hb
  clear hl hb
  go_wp2_with fail
  refine (copylookup0 Y0.out Y1.out HG.out x2 (by omega) (by omega)).mono ?_
  rintro _ w3 ⟨AX0, cX0, rfl, hsa, hb, hl⟩
  replace H0 := Lib.hid (H0.out.le hl)
  replace H1 := Lib.hid (H1.out.le hl)
  replace Y0 := Lib.hid (Y0.out.le hl)
  replace Y1 := Lib.hid (Y1.out.le hl)
  replace HG := Lib.hid (HG.out.le hl)
  replace HL := Lib.hid (HL.out.trans hl)
  have X0 := Lib.hid hb
  clear hl hb
  have HSA := Lib.hid hsa
  clear hsa
  go_wp2_with fail
  refine (copied0 H0.out).mono ?_
  rintro _ w4 ⟨AZ0, cZ0, rfl, hb, hl⟩
  replace H0 := Lib.hid (H0.out.le hl)
  replace H1 := Lib.hid (H1.out.le hl)
  replace Y0 := Lib.hid (Y0.out.le hl)
  replace Y1 := Lib.hid (Y1.out.le hl)
  replace X0 := Lib.hid (X0.out.le hl)
  replace HG := Lib.hid (HG.out.le hl)
  replace HL := Lib.hid (HL.out.trans hl)
  have Z0 := Lib.hid hb
  clear hl hb
  go_wp2_with fail
  refine (copied0 H1.out).mono ?_
  rintro _ w5 ⟨AZ1, cZ1, rfl, hb, hl⟩
  replace H0 := Lib.hid (H0.out.le hl)
  replace H1 := Lib.hid (H1.out.le hl)
  replace Y0 := Lib.hid (Y0.out.le hl)
  replace Y1 := Lib.hid (Y1.out.le hl)
  replace X0 := Lib.hid (X0.out.le hl)
  replace Z0 := Lib.hid (Z0.out.le hl)
  replace HG := Lib.hid (HG.out.le hl)
  replace HL := Lib.hid (HL.out.trans hl)
  have Z1 := Lib.hid hb
  clear hl hb
  go_wp2_with fail
  refine (lookup0 Z0.out Z1.out HG.out x2 (by omega) (by omega)).mono ?_
  rintro _ w6 ⟨AR1, cR1, rfl, hsa, hb, hl⟩
  replace H0 := Lib.hid (H0.out.le hl)
  replace H1 := Lib.hid (H1.out.le hl)
  replace Y0 := Lib.hid (Y0.out.le hl)
  replace Y1 := Lib.hid (Y1.out.le hl)
  replace X0 := Lib.hid (X0.out.le hl)
  replace Z0 := Lib.hid (Z0.out.le hl)
  replace Z1 := Lib.hid (Z1.out.le hl)
  replace HG := Lib.hid (HG.out.le hl)
  replace HL := Lib.hid (HL.out.trans hl)
  have R1 := Lib.hid hb
  clear hl hb
  have HSA := Lib.hid hsa
  clear hsa
  go_wp2_with fail
  refine (sameInts0 X0.out R1.out).mono ?_
  rintro _ w7 ⟨rfl, hl⟩
  replace H0 := Lib.hid (H0.out.le hl)
  replace H1 := Lib.hid (H1.out.le hl)
  replace Y0 := Lib.hid (Y0.out.le hl)
  replace Y1 := Lib.hid (Y1.out.le hl)
  replace X0 := Lib.hid (X0.out.le hl)
  replace Z0 := Lib.hid (Z0.out.le hl)
  replace Z1 := Lib.hid (Z1.out.le hl)
  replace R1 := Lib.hid (R1.out.le hl)
  replace HG := Lib.hid (HG.out.le hl)
  replace HL := Lib.hid (HL.out.trans hl)
  clear hl
  rw [decide_eq_true ⟨rfl, fun _ _ => rfl⟩]
  go_wp2
  go_ret
  exact ⟨rfl, HL.out⟩
end Go.Proofs.YtpkgkppehefibaaGreatDoor
