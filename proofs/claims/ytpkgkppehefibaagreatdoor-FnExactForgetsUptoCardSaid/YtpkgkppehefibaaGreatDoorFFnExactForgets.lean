/- The law FnExactForgets: its walk. Printed by walks.py. -/
import Derived.Test.YtpkgkppehefibaaGreatDoorWJ
import Derived.Test.YtpkgkppehefibaaGreatDoorH4
import Derived.Test.YtpkgkppehefibaaGreatDoorH8
namespace Go.Proofs.YtpkgkppehefibaaGreatDoor
open Go.RowKit Sa

set_option maxHeartbeats 4000000 in
set_option maxRecDepth 100000 in
theorem fnExactForgets_walk {A0 : Option Addr} {n0 c0 : Nat} {T0 : Nat → Nat} {A1 : Option Addr} {n1 c1 : Nat} {T1 : Nat → Nat} {A2 : Option Addr} {n2 c2 : Nat} {T2 : Nat → Nat} {A3 : Option Addr} {n3 c3 : Nat} {T3 : Nat → Nat} (w : World) (h0 : Bs w A0 n0 c0 T0) (h1 : Bs w A1 n1 c1 T1) (h2 : Bs w A2 n2 c2 T2) (h3 : Bs w A3 n3 c3 T3) (hg : MaxOk w) (_hsz : n0 + n1 + n2 + n3 < 1048576) :
    Calls Tryz.prog 5 #[.slice A0 n0 c0, .slice A1 n1 c1, .slice A2 n2 c2, .slice A3 n3 c3] w fun e w' => e = .returned (.bool true) ∧ Le w w' := by
  have hs0 := h0.sm
  have H0 := Lib.hid h0
  clear h0
  have hs1 := h1.sm
  have H1 := Lib.hid h1
  clear h1
  have hs2 := h2.sm
  have H2 := Lib.hid h2
  clear h2
  have hs3 := h3.sm
  have H3 := Lib.hid h3
  clear h3
  have HG := Lib.hid hg
  have HL := Lib.hid (Le.refl w)
  clear hg
  go_enter Tryz.func5, Tryz.ntmps5
  go_wp2_with fail
  refine (copied0 H0.out).mono ?_
  rintro _ w1 ⟨AY0, cY0, rfl, hb, hl⟩
  replace H0 := Lib.hid (H0.out.le hl)
  replace H1 := Lib.hid (H1.out.le hl)
  replace H2 := Lib.hid (H2.out.le hl)
  replace H3 := Lib.hid (H3.out.le hl)
  replace HG := Lib.hid (HG.out.le hl)
  replace HL := Lib.hid (HL.out.trans hl)
  have Y0 := Lib.hid hb
  clear hl hb
  go_wp2_with fail
  refine (copied0 H2.out).mono ?_
  rintro _ w2 ⟨AY1, cY1, rfl, hb, hl⟩
  replace H0 := Lib.hid (H0.out.le hl)
  replace H1 := Lib.hid (H1.out.le hl)
  replace H2 := Lib.hid (H2.out.le hl)
  replace H3 := Lib.hid (H3.out.le hl)
  replace Y0 := Lib.hid (Y0.out.le hl)
  replace HG := Lib.hid (HG.out.le hl)
  replace HL := Lib.hid (HL.out.trans hl)
  have Y1 := Lib.hid hb
  clear hl hb
  go_wp2_with fail
  refine (copied0 H3.out).mono ?_
  rintro _ w3 ⟨AY2, cY2, rfl, hb, hl⟩
  replace H0 := Lib.hid (H0.out.le hl)
  replace H1 := Lib.hid (H1.out.le hl)
  replace H2 := Lib.hid (H2.out.le hl)
  replace H3 := Lib.hid (H3.out.le hl)
  replace Y0 := Lib.hid (Y0.out.le hl)
  replace Y1 := Lib.hid (Y1.out.le hl)
  replace HG := Lib.hid (HG.out.le hl)
  replace HL := Lib.hid (HL.out.trans hl)
  have Y2 := Lib.hid hb
  clear hl hb
  go_wp2_with fail
  refine (exactmarks0 Y0.out Y1.out Y2.out HG.out).mono ?_
  rintro _ w4 ⟨AM0, cM0, rfl, hb, hl⟩
  replace H0 := Lib.hid (H0.out.le hl)
  replace H1 := Lib.hid (H1.out.le hl)
  replace H2 := Lib.hid (H2.out.le hl)
  replace H3 := Lib.hid (H3.out.le hl)
  replace Y0 := Lib.hid (Y0.out.le hl)
  replace Y1 := Lib.hid (Y1.out.le hl)
  replace Y2 := Lib.hid (Y2.out.le hl)
  replace HG := Lib.hid (HG.out.le hl)
  replace HL := Lib.hid (HL.out.trans hl)
  have M0 := Lib.hid hb
  clear hl hb
  clear Y0 Y1 Y2
  go_wp2_with fail
  refine (copied0 H1.out).mono ?_
  rintro _ w5 ⟨AY0, cY0, rfl, hb, hl⟩
  replace H0 := Lib.hid (H0.out.le hl)
  replace H1 := Lib.hid (H1.out.le hl)
  replace H2 := Lib.hid (H2.out.le hl)
  replace H3 := Lib.hid (H3.out.le hl)
  replace M0 := Lib.hid (M0.out.le hl)
  replace HG := Lib.hid (HG.out.le hl)
  replace HL := Lib.hid (HL.out.trans hl)
  have Y0 := Lib.hid hb
  clear hl hb
  go_wp2_with fail
  refine (copied0 H2.out).mono ?_
  rintro _ w6 ⟨AY1, cY1, rfl, hb, hl⟩
  replace H0 := Lib.hid (H0.out.le hl)
  replace H1 := Lib.hid (H1.out.le hl)
  replace H2 := Lib.hid (H2.out.le hl)
  replace H3 := Lib.hid (H3.out.le hl)
  replace M0 := Lib.hid (M0.out.le hl)
  replace Y0 := Lib.hid (Y0.out.le hl)
  replace HG := Lib.hid (HG.out.le hl)
  replace HL := Lib.hid (HL.out.trans hl)
  have Y1 := Lib.hid hb
  clear hl hb
  go_wp2_with fail
  refine (copied0 H3.out).mono ?_
  rintro _ w7 ⟨AY2, cY2, rfl, hb, hl⟩
  replace H0 := Lib.hid (H0.out.le hl)
  replace H1 := Lib.hid (H1.out.le hl)
  replace H2 := Lib.hid (H2.out.le hl)
  replace H3 := Lib.hid (H3.out.le hl)
  replace M0 := Lib.hid (M0.out.le hl)
  replace Y0 := Lib.hid (Y0.out.le hl)
  replace Y1 := Lib.hid (Y1.out.le hl)
  replace HG := Lib.hid (HG.out.le hl)
  replace HL := Lib.hid (HL.out.trans hl)
  have Y2 := Lib.hid hb
  clear hl hb
  go_wp2_with fail
  refine (exactmarks0 Y0.out Y1.out Y2.out HG.out).mono ?_
  rintro _ w8 ⟨AM1, cM1, rfl, hb, hl⟩
  replace H0 := Lib.hid (H0.out.le hl)
  replace H1 := Lib.hid (H1.out.le hl)
  replace H2 := Lib.hid (H2.out.le hl)
  replace H3 := Lib.hid (H3.out.le hl)
  replace M0 := Lib.hid (M0.out.le hl)
  replace Y0 := Lib.hid (Y0.out.le hl)
  replace Y1 := Lib.hid (Y1.out.le hl)
  replace Y2 := Lib.hid (Y2.out.le hl)
  replace HG := Lib.hid (HG.out.le hl)
  replace HL := Lib.hid (HL.out.trans hl)
  have M1 := Lib.hid hb
  clear hl hb
  clear Y0 Y1 Y2
  go_wp2_with fail
  refine (copied0 H0.out).mono ?_
  rintro _ w9 ⟨AY0, cY0, rfl, hb, hl⟩
  replace H0 := Lib.hid (H0.out.le hl)
  replace H1 := Lib.hid (H1.out.le hl)
  replace H2 := Lib.hid (H2.out.le hl)
  replace H3 := Lib.hid (H3.out.le hl)
  replace M0 := Lib.hid (M0.out.le hl)
  replace M1 := Lib.hid (M1.out.le hl)
  replace HG := Lib.hid (HG.out.le hl)
  replace HL := Lib.hid (HL.out.trans hl)
  have Y0 := Lib.hid hb
  clear hl hb
  go_wp2_with fail
  refine (copied0 H2.out).mono ?_
  rintro _ w10 ⟨AY1, cY1, rfl, hb, hl⟩
  replace H0 := Lib.hid (H0.out.le hl)
  replace H1 := Lib.hid (H1.out.le hl)
  replace H2 := Lib.hid (H2.out.le hl)
  replace H3 := Lib.hid (H3.out.le hl)
  replace M0 := Lib.hid (M0.out.le hl)
  replace M1 := Lib.hid (M1.out.le hl)
  replace Y0 := Lib.hid (Y0.out.le hl)
  replace HG := Lib.hid (HG.out.le hl)
  replace HL := Lib.hid (HL.out.trans hl)
  have Y1 := Lib.hid hb
  clear hl hb
  go_wp2_with fail
  refine (exactbytes0 Y0.out Y1.out HG.out).mono ?_
  rintro _ w11 ⟨AB0, cB0, rfl, hb, hl⟩
  replace H0 := Lib.hid (H0.out.le hl)
  replace H1 := Lib.hid (H1.out.le hl)
  replace H2 := Lib.hid (H2.out.le hl)
  replace H3 := Lib.hid (H3.out.le hl)
  replace M0 := Lib.hid (M0.out.le hl)
  replace M1 := Lib.hid (M1.out.le hl)
  replace Y0 := Lib.hid (Y0.out.le hl)
  replace Y1 := Lib.hid (Y1.out.le hl)
  replace HG := Lib.hid (HG.out.le hl)
  replace HL := Lib.hid (HL.out.trans hl)
  have B0 := Lib.hid hb
  clear hl hb
  clear Y0 Y1
  go_wp2_with fail
  refine (sameBools0 M0.out M1.out).mono ?_
  rintro _ w12 ⟨rfl, hl⟩
  replace H0 := Lib.hid (H0.out.le hl)
  replace H1 := Lib.hid (H1.out.le hl)
  replace H2 := Lib.hid (H2.out.le hl)
  replace H3 := Lib.hid (H3.out.le hl)
  replace M0 := Lib.hid (M0.out.le hl)
  replace M1 := Lib.hid (M1.out.le hl)
  replace B0 := Lib.hid (B0.out.le hl)
  replace HG := Lib.hid (HG.out.le hl)
  replace HL := Lib.hid (HL.out.trans hl)
  clear hl
  rw [decide_eq_true ⟨rfl, fun _ _ => rfl⟩]
  go_wp2_with fail
  refine (copied0 H2.out).mono ?_
  rintro _ w13 ⟨AY0, cY0, rfl, hb, hl⟩
  replace H0 := Lib.hid (H0.out.le hl)
  replace H1 := Lib.hid (H1.out.le hl)
  replace H2 := Lib.hid (H2.out.le hl)
  replace H3 := Lib.hid (H3.out.le hl)
  replace M0 := Lib.hid (M0.out.le hl)
  replace M1 := Lib.hid (M1.out.le hl)
  replace B0 := Lib.hid (B0.out.le hl)
  replace HG := Lib.hid (HG.out.le hl)
  replace HL := Lib.hid (HL.out.trans hl)
  have Y0 := Lib.hid hb
  clear hl hb
  go_wp2_with fail
  refine (copied0 H3.out).mono ?_
  rintro _ w14 ⟨AY1, cY1, rfl, hb, hl⟩
  replace H0 := Lib.hid (H0.out.le hl)
  replace H1 := Lib.hid (H1.out.le hl)
  replace H2 := Lib.hid (H2.out.le hl)
  replace H3 := Lib.hid (H3.out.le hl)
  replace M0 := Lib.hid (M0.out.le hl)
  replace M1 := Lib.hid (M1.out.le hl)
  replace B0 := Lib.hid (B0.out.le hl)
  replace Y0 := Lib.hid (Y0.out.le hl)
  replace HG := Lib.hid (HG.out.le hl)
  replace HL := Lib.hid (HL.out.trans hl)
  have Y1 := Lib.hid hb
  clear hl hb
  go_wp2_with fail
  refine (marks0 Y0.out Y1.out HG.out).mono ?_
  rintro _ w15 ⟨AM2, rfl, hb, hl⟩
  replace H0 := Lib.hid (H0.out.le hl)
  replace H1 := Lib.hid (H1.out.le hl)
  replace H2 := Lib.hid (H2.out.le hl)
  replace H3 := Lib.hid (H3.out.le hl)
  replace M0 := Lib.hid (M0.out.le hl)
  replace M1 := Lib.hid (M1.out.le hl)
  replace B0 := Lib.hid (B0.out.le hl)
  replace Y0 := Lib.hid (Y0.out.le hl)
  replace Y1 := Lib.hid (Y1.out.le hl)
  replace HG := Lib.hid (HG.out.le hl)
  replace HL := Lib.hid (HL.out.trans hl)
  have M2 := Lib.hid hb
  clear hl hb
  go_wp2_with fail
  refine (sameBools0 M0.out M2.out).mono ?_
  rintro _ w16 ⟨rfl, hl⟩
  replace H0 := Lib.hid (H0.out.le hl)
  replace H1 := Lib.hid (H1.out.le hl)
  replace H2 := Lib.hid (H2.out.le hl)
  replace H3 := Lib.hid (H3.out.le hl)
  replace M0 := Lib.hid (M0.out.le hl)
  replace M1 := Lib.hid (M1.out.le hl)
  replace B0 := Lib.hid (B0.out.le hl)
  replace Y0 := Lib.hid (Y0.out.le hl)
  replace Y1 := Lib.hid (Y1.out.le hl)
  replace M2 := Lib.hid (M2.out.le hl)
  replace HG := Lib.hid (HG.out.le hl)
  replace HL := Lib.hid (HL.out.trans hl)
  clear hl
  rw [decide_eq_true ⟨rfl, fun _ _ => rfl⟩]
  go_wp2_with fail
  refine (sameBytes0 B0.out H2.out).mono ?_
  rintro _ w17 ⟨rfl, hl⟩
  replace H0 := Lib.hid (H0.out.le hl)
  replace H1 := Lib.hid (H1.out.le hl)
  replace H2 := Lib.hid (H2.out.le hl)
  replace H3 := Lib.hid (H3.out.le hl)
  replace M0 := Lib.hid (M0.out.le hl)
  replace M1 := Lib.hid (M1.out.le hl)
  replace B0 := Lib.hid (B0.out.le hl)
  replace Y0 := Lib.hid (Y0.out.le hl)
  replace Y1 := Lib.hid (Y1.out.le hl)
  replace M2 := Lib.hid (M2.out.le hl)
  replace HG := Lib.hid (HG.out.le hl)
  replace HL := Lib.hid (HL.out.trans hl)
  clear hl
  rw [decide_eq_true ⟨rfl, fun _ _ => rfl⟩]
  go_wp2
  go_ret
  exact ⟨rfl, HL.out⟩
end Go.Proofs.YtpkgkppehefibaaGreatDoor
