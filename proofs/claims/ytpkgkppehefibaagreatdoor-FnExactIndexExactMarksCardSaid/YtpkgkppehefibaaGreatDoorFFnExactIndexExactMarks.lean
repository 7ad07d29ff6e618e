/- The law FnExactIndexExactMarks: its walk. Printed by walks.py. -/
import Derived.Test.YtpkgkppehefibaaGreatDoorWJ
namespace Go.Proofs.YtpkgkppehefibaaGreatDoor
open Go.RowKit Sa

set_option maxHeartbeats 8000000 in
set_option maxRecDepth 100000 in
theorem fnExactIndexExactMarks_walk {A0 : Option Addr} {n0 c0 : Nat} {T0 : Nat → Nat} {A1 : Option Addr} {n1 c1 : Nat} {T1 : Nat → Nat} {A2 : Option Addr} {n2 c2 : Nat} {T2 : Nat → Nat} (w : World) (h0 : Bq w A0 n0 c0 T0) (h1 : Bq w A1 n1 c1 T1) (h2 : Bq w A2 n2 c2 T2) (hg : MaxOk w) :
    Calls Tryz.prog 4 #[.slice A0 n0 c0, .slice A1 n1 c1, .slice A2 n2 c2] w fun e w' => e = .returned (.bool true) ∧ Le w w' := by
  have HG := Lib.hid hg
  have HL := Lib.hid (Le.refl w)
  clear hg
  by_cases hbig0 : 1048576 < n0
  · have hb1 : (1048576 : Int) < (n0 : Int) := by omega
    clear HG HL
    have HL := Lib.hid (Le.refl w)
    go_enter Tryz.func4, Tryz.ntmps4
    go_wp2
    go_ret
    exact ⟨rfl, HL.out⟩
  by_cases hbig1 : 1048576 < n1
  · have hb1 : (1048576 : Int) < (n1 : Int) := by omega
    have hc0 : ¬ (1048576 : Int) < (n0 : Int) := by omega
    clear HG HL
    have HL := Lib.hid (Le.refl w)
    go_enter Tryz.func4, Tryz.ntmps4
    go_wp2
    go_ret
    exact ⟨rfl, HL.out⟩
  by_cases hbig2 : 1048576 < n2
  · have hb1 : (1048576 : Int) < (n2 : Int) := by omega
    have hc0 : ¬ (1048576 : Int) < (n0 : Int) := by omega
    have hc1 : ¬ (1048576 : Int) < (n1 : Int) := by omega
    clear HG HL
    have HL := Lib.hid (Le.refl w)
    go_enter Tryz.func4, Tryz.ntmps4
    go_wp2
    go_ret
    exact ⟨rfl, HL.out⟩
  have hs0 : n0 < 1073741824 := by omega
  have hc0 : ¬ (1048576 : Int) < (n0 : Int) := by omega
  have O0 : Hid (Bs w A0 n0 c0 T0) := Lib.hid ⟨h0.rd, h0.lt, h0.nc, hs0⟩
  clear h0
  have hs1 : n1 < 1073741824 := by omega
  have hc1 : ¬ (1048576 : Int) < (n1 : Int) := by omega
  have O1 : Hid (Bs w A1 n1 c1 T1) := Lib.hid ⟨h1.rd, h1.lt, h1.nc, hs1⟩
  clear h1
  have hs2 : n2 < 1073741824 := by omega
  have hc2 : ¬ (1048576 : Int) < (n2 : Int) := by omega
  have O2 : Hid (Bs w A2 n2 c2 T2) := Lib.hid ⟨h2.rd, h2.lt, h2.nc, hs2⟩
  clear h2
  have OG := HG
  go_enter Tryz.func4, Tryz.ntmps4
  go_wp2_with fail
  refine (tobyte_any A0 n0 c0 _ _ T0 w hs0 HL.out.size ((O0.out.rd).below HL.out (Nat.le_refl _))).mono ?_
  rintro _ w1 ⟨AE0, cE0, rfl, hncE0, hw, hl⟩
  have S1 := Lib.hid hl.size
  replace HG := Lib.hid (HG.out.le hl)
  replace HL := Lib.hid (HL.out.trans hl)
  have E0 := Lib.hid hw
  clear hl hw
  go_wp2_with fail
  refine (tobyte_any A1 n1 c1 _ _ T1 w1 hs1 HL.out.size ((O1.out.rd).below HL.out (Nat.le_refl _))).mono ?_
  rintro _ w2 ⟨AE1, cE1, rfl, hncE1, hw, hl⟩
  have S2 := Lib.hid hl.size
  replace E0 := Lib.hid (E0.out.below hl (by have := S1.out; omega))
  replace HG := Lib.hid (HG.out.le hl)
  replace HL := Lib.hid (HL.out.trans hl)
  have E1 := Lib.hid hw
  clear hl hw
  go_wp2_with fail
  refine (tobyte_any A2 n2 c2 _ _ T2 w2 hs2 HL.out.size ((O2.out.rd).below HL.out (Nat.le_refl _))).mono ?_
  rintro _ w3 ⟨AE2, cE2, rfl, hncE2, hw, hl⟩
  have S3 := Lib.hid hl.size
  replace E0 := Lib.hid (E0.out.below hl (by have := S1.out; have := S2.out; omega))
  replace E1 := Lib.hid (E1.out.below hl (by have := S1.out; have := S2.out; omega))
  replace HG := Lib.hid (HG.out.le hl)
  replace HL := Lib.hid (HL.out.trans hl)
  have E2 := Lib.hid hw
  clear hl hw
  go_wp2_with fail
  refine (specexactmarksW (⟨E0.out.toRd.mono (Nat.zero_le _) (by have := S1.out; have := S2.out; have := S3.out; omega), O0.out.lt, hncE0, hs0⟩ : Bs w3 AE0 n0 cE0 T0) (⟨E1.out.toRd.mono (Nat.zero_le _) (by have := S1.out; have := S2.out; have := S3.out; omega), O1.out.lt, hncE1, hs1⟩ : Bs w3 AE1 n1 cE1 T1) (⟨E2.out.toRd.mono (Nat.zero_le _) (by have := S1.out; have := S2.out; have := S3.out; omega), O2.out.lt, hncE2, hs2⟩ : Bs w3 AE2 n2 cE2 T2)).mono ?_
  rintro _ w4 ⟨AV, cV, rfl, hncV, hw, hl⟩
  have S4 := Lib.hid hl.size
  replace E0 := Lib.hid (E0.out.below hl (by have := S1.out; have := S2.out; have := S3.out; omega))
  replace E1 := Lib.hid (E1.out.below hl (by have := S1.out; have := S2.out; have := S3.out; omega))
  replace E2 := Lib.hid (E2.out.below hl (by have := S1.out; have := S2.out; have := S3.out; omega))
  replace HG := Lib.hid (HG.out.le hl)
  replace HL := Lib.hid (HL.out.trans hl)
  have V := Lib.hid hw
  clear hl hw
  clear E0
  clear E1
  clear E2
  go_wp2_with fail
  refine (tobyte_any A0 n0 c0 _ _ T0 w4 hs0 HL.out.size ((O0.out.rd).below HL.out (Nat.le_refl _))).mono ?_
  rintro _ w5 ⟨AX0, cX0, rfl, hncX0, hw, hl⟩
  have S5 := Lib.hid hl.size
  replace V := Lib.hid (V.out.below hl (by have := S1.out; have := S2.out; have := S3.out; have := S4.out; omega))
  replace HG := Lib.hid (HG.out.le hl)
  replace HL := Lib.hid (HL.out.trans hl)
  have X0 := Lib.hid hw
  clear hl hw
  go_wp2_with fail
  refine (tobyte_any A1 n1 c1 _ _ T1 w5 hs1 HL.out.size ((O1.out.rd).below HL.out (Nat.le_refl _))).mono ?_
  rintro _ w6 ⟨AX1, cX1, rfl, hncX1, hw, hl⟩
  have S6 := Lib.hid hl.size
  replace V := Lib.hid (V.out.below hl (by have := S1.out; have := S2.out; have := S3.out; have := S4.out; have := S5.out; omega))
  replace X0 := Lib.hid (X0.out.below hl (by have := S1.out; have := S2.out; have := S3.out; have := S4.out; have := S5.out; omega))
  replace HG := Lib.hid (HG.out.le hl)
  replace HL := Lib.hid (HL.out.trans hl)
  have X1 := Lib.hid hw
  clear hl hw
  go_wp2_with fail
  refine (tobyte_any A2 n2 c2 _ _ T2 w6 hs2 HL.out.size ((O2.out.rd).below HL.out (Nat.le_refl _))).mono ?_
  rintro _ w7 ⟨AX2, cX2, rfl, hncX2, hw, hl⟩
  have S7 := Lib.hid hl.size
  replace V := Lib.hid (V.out.below hl (by have := S1.out; have := S2.out; have := S3.out; have := S4.out; have := S5.out; have := S6.out; omega))
  replace X0 := Lib.hid (X0.out.below hl (by have := S1.out; have := S2.out; have := S3.out; have := S4.out; have := S5.out; have := S6.out; omega))
  replace X1 := Lib.hid (X1.out.below hl (by have := S1.out; have := S2.out; have := S3.out; have := S4.out; have := S5.out; have := S6.out; omega))
  replace HG := Lib.hid (HG.out.le hl)
  replace HL := Lib.hid (HL.out.trans hl)
  have X2 := Lib.hid hw
  clear hl hw
  go_wp2_with fail
  refine (exactmarksW (⟨X0.out.toRd.mono (Nat.zero_le _) (by have := S1.out; have := S2.out; have := S3.out; have := S4.out; have := S5.out; have := S6.out; have := S7.out; omega), O0.out.lt, hncX0, hs0⟩ : Bs w7 AX0 n0 cX0 T0) (⟨X1.out.toRd.mono (Nat.zero_le _) (by have := S1.out; have := S2.out; have := S3.out; have := S4.out; have := S5.out; have := S6.out; have := S7.out; omega), O1.out.lt, hncX1, hs1⟩ : Bs w7 AX1 n1 cX1 T1) (⟨X2.out.toRd.mono (Nat.zero_le _) (by have := S1.out; have := S2.out; have := S3.out; have := S4.out; have := S5.out; have := S6.out; have := S7.out; omega), O2.out.lt, hncX2, hs2⟩ : Bs w7 AX2 n2 cX2 T2) HG.out).mono ?_
  rintro _ w8 ⟨AG, cG, rfl, hncG, hw, hl⟩
  have S8 := Lib.hid hl.size
  replace V := Lib.hid (V.out.below hl (by have := S1.out; have := S2.out; have := S3.out; have := S4.out; have := S5.out; have := S6.out; have := S7.out; omega))
  replace X0 := Lib.hid (X0.out.below hl (by have := S1.out; have := S2.out; have := S3.out; have := S4.out; have := S5.out; have := S6.out; have := S7.out; omega))
  replace X1 := Lib.hid (X1.out.below hl (by have := S1.out; have := S2.out; have := S3.out; have := S4.out; have := S5.out; have := S6.out; have := S7.out; omega))
  replace X2 := Lib.hid (X2.out.below hl (by have := S1.out; have := S2.out; have := S3.out; have := S4.out; have := S5.out; have := S6.out; have := S7.out; omega))
  replace HG := Lib.hid (HG.out.le hl)
  replace HL := Lib.hid (HL.out.trans hl)
  have G := Lib.hid hw
  clear hl hw
  go_wp2_with fail
  refine (eqbool_any AG AV n1 cG cV _ _ _ _ _ _ w8 (by omega) G.out.toRd V.out.toRd (fun _ _ => rfl)).mono ?_
  rintro _ w9 ⟨rfl, hq⟩
  have hl : Le w8 w9 := Le.of hq
  clear hq
  have S9 := Lib.hid hl.size
  replace V := Lib.hid (V.out.below hl (by have := S1.out; have := S2.out; have := S3.out; have := S4.out; have := S5.out; have := S6.out; have := S7.out; have := S8.out; omega))
  replace X0 := Lib.hid (X0.out.below hl (by have := S1.out; have := S2.out; have := S3.out; have := S4.out; have := S5.out; have := S6.out; have := S7.out; have := S8.out; omega))
  replace X1 := Lib.hid (X1.out.below hl (by have := S1.out; have := S2.out; have := S3.out; have := S4.out; have := S5.out; have := S6.out; have := S7.out; have := S8.out; omega))
  replace X2 := Lib.hid (X2.out.below hl (by have := S1.out; have := S2.out; have := S3.out; have := S4.out; have := S5.out; have := S6.out; have := S7.out; have := S8.out; omega))
  replace G := Lib.hid (G.out.below hl (by have := S1.out; have := S2.out; have := S3.out; have := S4.out; have := S5.out; have := S6.out; have := S7.out; have := S8.out; omega))
  replace HG := Lib.hid (HG.out.le hl)
  replace HL := Lib.hid (HL.out.trans hl)
  clear hl
  go_wp2_with fail
  refine (tobyte_any A0 n0 c0 _ _ T0 w9 hs0 HL.out.size ((O0.out.rd).below HL.out (Nat.le_refl _))).mono ?_
  rintro _ w10 ⟨AY0, cY0, rfl, hncY0, hw, hl⟩
  have S10 := Lib.hid hl.size
  replace V := Lib.hid (V.out.below hl (by have := S1.out; have := S2.out; have := S3.out; have := S4.out; have := S5.out; have := S6.out; have := S7.out; have := S8.out; have := S9.out; omega))
  replace X0 := Lib.hid (X0.out.below hl (by have := S1.out; have := S2.out; have := S3.out; have := S4.out; have := S5.out; have := S6.out; have := S7.out; have := S8.out; have := S9.out; omega))
  replace X1 := Lib.hid (X1.out.below hl (by have := S1.out; have := S2.out; have := S3.out; have := S4.out; have := S5.out; have := S6.out; have := S7.out; have := S8.out; have := S9.out; omega))
  replace X2 := Lib.hid (X2.out.below hl (by have := S1.out; have := S2.out; have := S3.out; have := S4.out; have := S5.out; have := S6.out; have := S7.out; have := S8.out; have := S9.out; omega))
  replace G := Lib.hid (G.out.below hl (by have := S1.out; have := S2.out; have := S3.out; have := S4.out; have := S5.out; have := S6.out; have := S7.out; have := S8.out; have := S9.out; omega))
  replace HG := Lib.hid (HG.out.le hl)
  replace HL := Lib.hid (HL.out.trans hl)
  have Y0 := Lib.hid hw
  clear hl hw
  go_wp2_with fail
  refine (eqbyte_any AX0 AY0 n0 cX0 cY0 _ _ _ _ _ _ w10 (by omega) X0.out.toRd Y0.out.toRd (fun _ _ => rfl)).mono ?_
  rintro _ w11 ⟨rfl, hq⟩
  have hl : Le w10 w11 := Le.of hq
  clear hq
  have S11 := Lib.hid hl.size
  replace V := Lib.hid (V.out.below hl (by have := S1.out; have := S2.out; have := S3.out; have := S4.out; have := S5.out; have := S6.out; have := S7.out; have := S8.out; have := S9.out; have := S10.out; omega))
  replace X0 := Lib.hid (X0.out.below hl (by have := S1.out; have := S2.out; have := S3.out; have := S4.out; have := S5.out; have := S6.out; have := S7.out; have := S8.out; have := S9.out; have := S10.out; omega))
  replace X1 := Lib.hid (X1.out.below hl (by have := S1.out; have := S2.out; have := S3.out; have := S4.out; have := S5.out; have := S6.out; have := S7.out; have := S8.out; have := S9.out; have := S10.out; omega))
  replace X2 := Lib.hid (X2.out.below hl (by have := S1.out; have := S2.out; have := S3.out; have := S4.out; have := S5.out; have := S6.out; have := S7.out; have := S8.out; have := S9.out; have := S10.out; omega))
  replace G := Lib.hid (G.out.below hl (by have := S1.out; have := S2.out; have := S3.out; have := S4.out; have := S5.out; have := S6.out; have := S7.out; have := S8.out; have := S9.out; have := S10.out; omega))
  replace Y0 := Lib.hid (Y0.out.below hl (by have := S1.out; have := S2.out; have := S3.out; have := S4.out; have := S5.out; have := S6.out; have := S7.out; have := S8.out; have := S9.out; have := S10.out; omega))
  replace HG := Lib.hid (HG.out.le hl)
  replace HL := Lib.hid (HL.out.trans hl)
  clear hl
  clear Y0
  go_wp2_with fail
  refine (tobyte_any A1 n1 c1 _ _ T1 w11 hs1 HL.out.size ((O1.out.rd).below HL.out (Nat.le_refl _))).mono ?_
  rintro _ w12 ⟨AY1, cY1, rfl, hncY1, hw, hl⟩
  have S12 := Lib.hid hl.size
  replace V := Lib.hid (V.out.below hl (by have := S1.out; have := S2.out; have := S3.out; have := S4.out; have := S5.out; have := S6.out; have := S7.out; have := S8.out; have := S9.out; have := S10.out; have := S11.out; omega))
  replace X0 := Lib.hid (X0.out.below hl (by have := S1.out; have := S2.out; have := S3.out; have := S4.out; have := S5.out; have := S6.out; have := S7.out; have := S8.out; have := S9.out; have := S10.out; have := S11.out; omega))
  replace X1 := Lib.hid (X1.out.below hl (by have := S1.out; have := S2.out; have := S3.out; have := S4.out; have := S5.out; have := S6.out; have := S7.out; have := S8.out; have := S9.out; have := S10.out; have := S11.out; omega))
  replace X2 := Lib.hid (X2.out.below hl (by have := S1.out; have := S2.out; have := S3.out; have := S4.out; have := S5.out; have := S6.out; have := S7.out; have := S8.out; have := S9.out; have := S10.out; have := S11.out; omega))
  replace G := Lib.hid (G.out.below hl (by have := S1.out; have := S2.out; have := S3.out; have := S4.out; have := S5.out; have := S6.out; have := S7.out; have := S8.out; have := S9.out; have := S10.out; have := S11.out; omega))
  replace HG := Lib.hid (HG.out.le hl)
  replace HL := Lib.hid (HL.out.trans hl)
  have Y1 := Lib.hid hw
  clear hl hw
  go_wp2_with fail
  refine (eqbyte_any AX1 AY1 n1 cX1 cY1 _ _ _ _ _ _ w12 (by omega) X1.out.toRd Y1.out.toRd (fun _ _ => rfl)).mono ?_
  rintro _ w13 ⟨rfl, hq⟩
  have hl : Le w12 w13 := Le.of hq
  clear hq
  have S13 := Lib.hid hl.size
  replace V := Lib.hid (V.out.below hl (by have := S1.out; have := S2.out; have := S3.out; have := S4.out; have := S5.out; have := S6.out; have := S7.out; have := S8.out; have := S9.out; have := S10.out; have := S11.out; have := S12.out; omega))
  replace X0 := Lib.hid (X0.out.below hl (by have := S1.out; have := S2.out; have := S3.out; have := S4.out; have := S5.out; have := S6.out; have := S7.out; have := S8.out; have := S9.out; have := S10.out; have := S11.out; have := S12.out; omega))
  replace X1 := Lib.hid (X1.out.below hl (by have := S1.out; have := S2.out; have := S3.out; have := S4.out; have := S5.out; have := S6.out; have := S7.out; have := S8.out; have := S9.out; have := S10.out; have := S11.out; have := S12.out; omega))
  replace X2 := Lib.hid (X2.out.below hl (by have := S1.out; have := S2.out; have := S3.out; have := S4.out; have := S5.out; have := S6.out; have := S7.out; have := S8.out; have := S9.out; have := S10.out; have := S11.out; have := S12.out; omega))
  replace G := Lib.hid (G.out.below hl (by have := S1.out; have := S2.out; have := S3.out; have := S4.out; have := S5.out; have := S6.out; have := S7.out; have := S8.out; have := S9.out; have := S10.out; have := S11.out; have := S12.out; omega))
  replace Y1 := Lib.hid (Y1.out.below hl (by have := S1.out; have := S2.out; have := S3.out; have := S4.out; have := S5.out; have := S6.out; have := S7.out; have := S8.out; have := S9.out; have := S10.out; have := S11.out; have := S12.out; omega))
  replace HG := Lib.hid (HG.out.le hl)
  replace HL := Lib.hid (HL.out.trans hl)
  clear hl
  clear Y1
  go_wp2_with fail
  refine (tobyte_any A2 n2 c2 _ _ T2 w13 hs2 HL.out.size ((O2.out.rd).below HL.out (Nat.le_refl _))).mono ?_
  rintro _ w14 ⟨AY2, cY2, rfl, hncY2, hw, hl⟩
  have S14 := Lib.hid hl.size
  replace V := Lib.hid (V.out.below hl (by have := S1.out; have := S2.out; have := S3.out; have := S4.out; have := S5.out; have := S6.out; have := S7.out; have := S8.out; have := S9.out; have := S10.out; have := S11.out; have := S12.out; have := S13.out; omega))
  replace X0 := Lib.hid (X0.out.below hl (by have := S1.out; have := S2.out; have := S3.out; have := S4.out; have := S5.out; have := S6.out; have := S7.out; have := S8.out; have := S9.out; have := S10.out; have := S11.out; have := S12.out; have := S13.out; omega))
  replace X1 := Lib.hid (X1.out.below hl (by have := S1.out; have := S2.out; have := S3.out; have := S4.out; have := S5.out; have := S6.out; have := S7.out; have := S8.out; have := S9.out; have := S10.out; have := S11.out; have := S12.out; have := S13.out; omega))
  replace X2 := Lib.hid (X2.out.below hl (by have := S1.out; have := S2.out; have := S3.out; have := S4.out; have := S5.out; have := S6.out; have := S7.out; have := S8.out; have := S9.out; have := S10.out; have := S11.out; have := S12.out; have := S13.out; omega))
  replace G := Lib.hid (G.out.below hl (by have := S1.out; have := S2.out; have := S3.out; have := S4.out; have := S5.out; have := S6.out; have := S7.out; have := S8.out; have := S9.out; have := S10.out; have := S11.out; have := S12.out; have := S13.out; omega))
  replace HG := Lib.hid (HG.out.le hl)
  replace HL := Lib.hid (HL.out.trans hl)
  have Y2 := Lib.hid hw
  clear hl hw
  go_wp2_with fail
  refine (eqbyte_any AX2 AY2 n2 cX2 cY2 _ _ _ _ _ _ w14 (by omega) X2.out.toRd Y2.out.toRd (fun _ _ => rfl)).mono ?_
  rintro _ w15 ⟨rfl, hq⟩
  have hl : Le w14 w15 := Le.of hq
  clear hq
  have S15 := Lib.hid hl.size
  replace V := Lib.hid (V.out.below hl (by have := S1.out; have := S2.out; have := S3.out; have := S4.out; have := S5.out; have := S6.out; have := S7.out; have := S8.out; have := S9.out; have := S10.out; have := S11.out; have := S12.out; have := S13.out; have := S14.out; omega))
  replace X0 := Lib.hid (X0.out.below hl (by have := S1.out; have := S2.out; have := S3.out; have := S4.out; have := S5.out; have := S6.out; have := S7.out; have := S8.out; have := S9.out; have := S10.out; have := S11.out; have := S12.out; have := S13.out; have := S14.out; omega))
  replace X1 := Lib.hid (X1.out.below hl (by have := S1.out; have := S2.out; have := S3.out; have := S4.out; have := S5.out; have := S6.out; have := S7.out; have := S8.out; have := S9.out; have := S10.out; have := S11.out; have := S12.out; have := S13.out; have := S14.out; omega))
  replace X2 := Lib.hid (X2.out.below hl (by have := S1.out; have := S2.out; have := S3.out; have := S4.out; have := S5.out; have := S6.out; have := S7.out; have := S8.out; have := S9.out; have := S10.out; have := S11.out; have := S12.out; have := S13.out; have := S14.out; omega))
  replace G := Lib.hid (G.out.below hl (by have := S1.out; have := S2.out; have := S3.out; have := S4.out; have := S5.out; have := S6.out; have := S7.out; have := S8.out; have := S9.out; have := S10.out; have := S11.out; have := S12.out; have := S13.out; have := S14.out; omega))
  replace Y2 := Lib.hid (Y2.out.below hl (by have := S1.out; have := S2.out; have := S3.out; have := S4.out; have := S5.out; have := S6.out; have := S7.out; have := S8.out; have := S9.out; have := S10.out; have := S11.out; have := S12.out; have := S13.out; have := S14.out; omega))
  replace HG := Lib.hid (HG.out.le hl)
  replace HL := Lib.hid (HL.out.trans hl)
  clear hl
  clear Y2
  go_wp2_with fail
  refine (markbyte_any AX0 n0 cX0 _ _ 1 _ w15 (by omega) (by omega) X0.out (fun i _ => ⟨_, rfl⟩)).mono ?_
  rintro _ w16 ⟨rfl, hw, hch⟩
  have S16 := Lib.hid hch.size
  replace V := Lib.hid (V.out.chg (by have := S1.out; have := S2.out; have := S3.out; have := S4.out; have := S5.out; have := S6.out; have := S7.out; have := S8.out; have := S9.out; have := S10.out; have := S11.out; have := S12.out; have := S13.out; have := S14.out; have := S15.out; omega) hch (fun b _ h1 h2 h3 => by have := S1.out; have := S2.out; have := S3.out; have := S4.out; have := S5.out; have := S6.out; have := S7.out; have := S8.out; have := S9.out; have := S10.out; have := S11.out; have := S12.out; have := S13.out; have := S14.out; have := S15.out; omega))
  replace X1 := Lib.hid (X1.out.chg (by have := S1.out; have := S2.out; have := S3.out; have := S4.out; have := S5.out; have := S6.out; have := S7.out; have := S8.out; have := S9.out; have := S10.out; have := S11.out; have := S12.out; have := S13.out; have := S14.out; have := S15.out; omega) hch (fun b _ h1 h2 h3 => by have := S1.out; have := S2.out; have := S3.out; have := S4.out; have := S5.out; have := S6.out; have := S7.out; have := S8.out; have := S9.out; have := S10.out; have := S11.out; have := S12.out; have := S13.out; have := S14.out; have := S15.out; omega))
  replace X2 := Lib.hid (X2.out.chg (by have := S1.out; have := S2.out; have := S3.out; have := S4.out; have := S5.out; have := S6.out; have := S7.out; have := S8.out; have := S9.out; have := S10.out; have := S11.out; have := S12.out; have := S13.out; have := S14.out; have := S15.out; omega) hch (fun b _ h1 h2 h3 => by have := S1.out; have := S2.out; have := S3.out; have := S4.out; have := S5.out; have := S6.out; have := S7.out; have := S8.out; have := S9.out; have := S10.out; have := S11.out; have := S12.out; have := S13.out; have := S14.out; have := S15.out; omega))
  replace G := Lib.hid (G.out.chg (by have := S1.out; have := S2.out; have := S3.out; have := S4.out; have := S5.out; have := S6.out; have := S7.out; have := S8.out; have := S9.out; have := S10.out; have := S11.out; have := S12.out; have := S13.out; have := S14.out; have := S15.out; omega) hch (fun b _ h1 h2 h3 => by have := S1.out; have := S2.out; have := S3.out; have := S4.out; have := S5.out; have := S6.out; have := S7.out; have := S8.out; have := S9.out; have := S10.out; have := S11.out; have := S12.out; have := S13.out; have := S14.out; have := S15.out; omega))
  have hbl : Below w.heap.size w15 w16 := hch.below (by have := S1.out; have := S2.out; have := S3.out; have := S4.out; have := S5.out; have := S6.out; have := S7.out; have := S8.out; have := S9.out; have := S10.out; have := S11.out; have := S12.out; have := S13.out; have := S14.out; have := S15.out; omega) (fun b _ h => by have := S1.out; have := S2.out; have := S3.out; have := S4.out; have := S5.out; have := S6.out; have := S7.out; have := S8.out; have := S9.out; have := S10.out; have := S11.out; have := S12.out; have := S13.out; have := S14.out; have := S15.out; have := h.1; omega)
  replace HL : Hid (Le w w16) := Lib.hid (Below.trans HL.out hbl)
  replace HG := Lib.hid (OG.out.le HL.out)
  replace X0 := Lib.hid hw
  clear hw hch hbl
  go_wp2_with fail
  rw [show (1 : Int) + (n0 : Int) = (((1 + n0) : Nat) : Int) by omega]
  refine (markbyte_any AX1 n1 cX1 _ _ (1 + n0) _ w16 (by omega) (by omega) X1.out (fun i _ => ⟨_, rfl⟩)).mono ?_
  rintro _ w17 ⟨rfl, hw, hch⟩
  have S17 := Lib.hid hch.size
  replace V := Lib.hid (V.out.chg (by have := S1.out; have := S2.out; have := S3.out; have := S4.out; have := S5.out; have := S6.out; have := S7.out; have := S8.out; have := S9.out; have := S10.out; have := S11.out; have := S12.out; have := S13.out; have := S14.out; have := S15.out; have := S16.out; omega) hch (fun b _ h1 h2 h3 => by have := S1.out; have := S2.out; have := S3.out; have := S4.out; have := S5.out; have := S6.out; have := S7.out; have := S8.out; have := S9.out; have := S10.out; have := S11.out; have := S12.out; have := S13.out; have := S14.out; have := S15.out; have := S16.out; omega))
  replace X0 := Lib.hid (X0.out.chg (by have := S1.out; have := S2.out; have := S3.out; have := S4.out; have := S5.out; have := S6.out; have := S7.out; have := S8.out; have := S9.out; have := S10.out; have := S11.out; have := S12.out; have := S13.out; have := S14.out; have := S15.out; have := S16.out; omega) hch (fun b _ h1 h2 h3 => by have := S1.out; have := S2.out; have := S3.out; have := S4.out; have := S5.out; have := S6.out; have := S7.out; have := S8.out; have := S9.out; have := S10.out; have := S11.out; have := S12.out; have := S13.out; have := S14.out; have := S15.out; have := S16.out; omega))
  replace X2 := Lib.hid (X2.out.chg (by have := S1.out; have := S2.out; have := S3.out; have := S4.out; have := S5.out; have := S6.out; have := S7.out; have := S8.out; have := S9.out; have := S10.out; have := S11.out; have := S12.out; have := S13.out; have := S14.out; have := S15.out; have := S16.out; omega) hch (fun b _ h1 h2 h3 => by have := S1.out; have := S2.out; have := S3.out; have := S4.out; have := S5.out; have := S6.out; have := S7.out; have := S8.out; have := S9.out; have := S10.out; have := S11.out; have := S12.out; have := S13.out; have := S14.out; have := S15.out; have := S16.out; omega))
  replace G := Lib.hid (G.out.chg (by have := S1.out; have := S2.out; have := S3.out; have := S4.out; have := S5.out; have := S6.out; have := S7.out; have := S8.out; have := S9.out; have := S10.out; have := S11.out; have := S12.out; have := S13.out; have := S14.out; have := S15.out; have := S16.out; omega) hch (fun b _ h1 h2 h3 => by have := S1.out; have := S2.out; have := S3.out; have := S4.out; have := S5.out; have := S6.out; have := S7.out; have := S8.out; have := S9.out; have := S10.out; have := S11.out; have := S12.out; have := S13.out; have := S14.out; have := S15.out; have := S16.out; omega))
  have hbl : Below w.heap.size w16 w17 := hch.below (by have := S1.out; have := S2.out; have := S3.out; have := S4.out; have := S5.out; have := S6.out; have := S7.out; have := S8.out; have := S9.out; have := S10.out; have := S11.out; have := S12.out; have := S13.out; have := S14.out; have := S15.out; have := S16.out; omega) (fun b _ h => by have := S1.out; have := S2.out; have := S3.out; have := S4.out; have := S5.out; have := S6.out; have := S7.out; have := S8.out; have := S9.out; have := S10.out; have := S11.out; have := S12.out; have := S13.out; have := S14.out; have := S15.out; have := S16.out; have := h.1; omega)
  replace HL : Hid (Le w w17) := Lib.hid (Below.trans HL.out hbl)
  replace HG := Lib.hid (OG.out.le HL.out)
  replace X1 := Lib.hid hw
  clear hw hch hbl
  go_wp2_with fail
  rw [show (1 : Int) + (n0 : Int) + (n1 : Int) = ((((1 + n0) + n1) : Nat) : Int) by omega]
  refine (markbyte_any AX2 n2 cX2 _ _ ((1 + n0) + n1) _ w17 (by omega) (by omega) X2.out (fun i _ => ⟨_, rfl⟩)).mono ?_
  rintro _ w18 ⟨rfl, hw, hch⟩
  have S18 := Lib.hid hch.size
  replace V := Lib.hid (V.out.chg (by have := S1.out; have := S2.out; have := S3.out; have := S4.out; have := S5.out; have := S6.out; have := S7.out; have := S8.out; have := S9.out; have := S10.out; have := S11.out; have := S12.out; have := S13.out; have := S14.out; have := S15.out; have := S16.out; have := S17.out; omega) hch (fun b _ h1 h2 h3 => by have := S1.out; have := S2.out; have := S3.out; have := S4.out; have := S5.out; have := S6.out; have := S7.out; have := S8.out; have := S9.out; have := S10.out; have := S11.out; have := S12.out; have := S13.out; have := S14.out; have := S15.out; have := S16.out; have := S17.out; omega))
  replace X0 := Lib.hid (X0.out.chg (by have := S1.out; have := S2.out; have := S3.out; have := S4.out; have := S5.out; have := S6.out; have := S7.out; have := S8.out; have := S9.out; have := S10.out; have := S11.out; have := S12.out; have := S13.out; have := S14.out; have := S15.out; have := S16.out; have := S17.out; omega) hch (fun b _ h1 h2 h3 => by have := S1.out; have := S2.out; have := S3.out; have := S4.out; have := S5.out; have := S6.out; have := S7.out; have := S8.out; have := S9.out; have := S10.out; have := S11.out; have := S12.out; have := S13.out; have := S14.out; have := S15.out; have := S16.out; have := S17.out; omega))
  replace X1 := Lib.hid (X1.out.chg (by have := S1.out; have := S2.out; have := S3.out; have := S4.out; have := S5.out; have := S6.out; have := S7.out; have := S8.out; have := S9.out; have := S10.out; have := S11.out; have := S12.out; have := S13.out; have := S14.out; have := S15.out; have := S16.out; have := S17.out; omega) hch (fun b _ h1 h2 h3 => by have := S1.out; have := S2.out; have := S3.out; have := S4.out; have := S5.out; have := S6.out; have := S7.out; have := S8.out; have := S9.out; have := S10.out; have := S11.out; have := S12.out; have := S13.out; have := S14.out; have := S15.out; have := S16.out; have := S17.out; omega))
  replace G := Lib.hid (G.out.chg (by have := S1.out; have := S2.out; have := S3.out; have := S4.out; have := S5.out; have := S6.out; have := S7.out; have := S8.out; have := S9.out; have := S10.out; have := S11.out; have := S12.out; have := S13.out; have := S14.out; have := S15.out; have := S16.out; have := S17.out; omega) hch (fun b _ h1 h2 h3 => by have := S1.out; have := S2.out; have := S3.out; have := S4.out; have := S5.out; have := S6.out; have := S7.out; have := S8.out; have := S9.out; have := S10.out; have := S11.out; have := S12.out; have := S13.out; have := S14.out; have := S15.out; have := S16.out; have := S17.out; omega))
  have hbl : Below w.heap.size w17 w18 := hch.below (by have := S1.out; have := S2.out; have := S3.out; have := S4.out; have := S5.out; have := S6.out; have := S7.out; have := S8.out; have := S9.out; have := S10.out; have := S11.out; have := S12.out; have := S13.out; have := S14.out; have := S15.out; have := S16.out; have := S17.out; omega) (fun b _ h => by have := S1.out; have := S2.out; have := S3.out; have := S4.out; have := S5.out; have := S6.out; have := S7.out; have := S8.out; have := S9.out; have := S10.out; have := S11.out; have := S12.out; have := S13.out; have := S14.out; have := S15.out; have := S16.out; have := S17.out; have := h.1; omega)
  replace HL : Hid (Le w w18) := Lib.hid (Below.trans HL.out hbl)
  replace HG := Lib.hid (OG.out.le HL.out)
  replace X2 := Lib.hid hw
  clear hw hch hbl
  have hkk : decide ((1 : Int) + (n0 : Int) + (n1 : Int) + (n2 : Int) < 0) = false := decide_eq_false (by omega)
  go_wp2_with fail
  refine (eqbool_any AG AV n1 cG cV _ _ _ _ _ _ w18 (by omega) G.out.toRd V.out.toRd (fun _ _ => rfl)).mono ?_
  rintro _ w19 ⟨rfl, hq⟩
  have hl : Le w18 w19 := Le.of hq
  clear hq
  have S19 := Lib.hid hl.size
  replace V := Lib.hid (V.out.below hl (by have := S1.out; have := S2.out; have := S3.out; have := S4.out; have := S5.out; have := S6.out; have := S7.out; have := S8.out; have := S9.out; have := S10.out; have := S11.out; have := S12.out; have := S13.out; have := S14.out; have := S15.out; have := S16.out; have := S17.out; have := S18.out; omega))
  replace X0 := Lib.hid (X0.out.below hl (by have := S1.out; have := S2.out; have := S3.out; have := S4.out; have := S5.out; have := S6.out; have := S7.out; have := S8.out; have := S9.out; have := S10.out; have := S11.out; have := S12.out; have := S13.out; have := S14.out; have := S15.out; have := S16.out; have := S17.out; have := S18.out; omega))
  replace X1 := Lib.hid (X1.out.below hl (by have := S1.out; have := S2.out; have := S3.out; have := S4.out; have := S5.out; have := S6.out; have := S7.out; have := S8.out; have := S9.out; have := S10.out; have := S11.out; have := S12.out; have := S13.out; have := S14.out; have := S15.out; have := S16.out; have := S17.out; have := S18.out; omega))
  replace X2 := Lib.hid (X2.out.below hl (by have := S1.out; have := S2.out; have := S3.out; have := S4.out; have := S5.out; have := S6.out; have := S7.out; have := S8.out; have := S9.out; have := S10.out; have := S11.out; have := S12.out; have := S13.out; have := S14.out; have := S15.out; have := S16.out; have := S17.out; have := S18.out; omega))
  replace G := Lib.hid (G.out.below hl (by have := S1.out; have := S2.out; have := S3.out; have := S4.out; have := S5.out; have := S6.out; have := S7.out; have := S8.out; have := S9.out; have := S10.out; have := S11.out; have := S12.out; have := S13.out; have := S14.out; have := S15.out; have := S16.out; have := S17.out; have := S18.out; omega))
  replace HG := Lib.hid (HG.out.le hl)
  replace HL := Lib.hid (HL.out.trans hl)
  clear hl
  clear X0
  clear X1
  clear X2
  go_wp2_with fail
  refine (markbool_any AG n1 cG _ _ 1 _ w19 (by omega) (by omega) G.out (fun i _ => ⟨_, rfl⟩)).mono ?_
  rintro _ w20 ⟨rfl, hw, hch⟩
  have S20 := Lib.hid hch.size
  replace V := Lib.hid (V.out.chg (by have := S1.out; have := S2.out; have := S3.out; have := S4.out; have := S5.out; have := S6.out; have := S7.out; have := S8.out; have := S9.out; have := S10.out; have := S11.out; have := S12.out; have := S13.out; have := S14.out; have := S15.out; have := S16.out; have := S17.out; have := S18.out; have := S19.out; omega) hch (fun b _ h1 h2 h3 => by have := S1.out; have := S2.out; have := S3.out; have := S4.out; have := S5.out; have := S6.out; have := S7.out; have := S8.out; have := S9.out; have := S10.out; have := S11.out; have := S12.out; have := S13.out; have := S14.out; have := S15.out; have := S16.out; have := S17.out; have := S18.out; have := S19.out; omega))
  have hbl : Below w.heap.size w19 w20 := hch.below (by have := S1.out; have := S2.out; have := S3.out; have := S4.out; have := S5.out; have := S6.out; have := S7.out; have := S8.out; have := S9.out; have := S10.out; have := S11.out; have := S12.out; have := S13.out; have := S14.out; have := S15.out; have := S16.out; have := S17.out; have := S18.out; have := S19.out; omega) (fun b _ h => by have := S1.out; have := S2.out; have := S3.out; have := S4.out; have := S5.out; have := S6.out; have := S7.out; have := S8.out; have := S9.out; have := S10.out; have := S11.out; have := S12.out; have := S13.out; have := S14.out; have := S15.out; have := S16.out; have := S17.out; have := S18.out; have := S19.out; have := h.1; omega)
  replace HL : Hid (Le w w20) := Lib.hid (Below.trans HL.out hbl)
  replace HG := Lib.hid (OG.out.le HL.out)
  replace G := Lib.hid hw
  clear hw hch hbl
  go_wp2_with fail
  refine (heldbool_any AG n1 cG _ _ 1 w20 (by omega) (by omega) G.out.toRd).mono ?_
  rintro _ _ ⟨rfl, rfl⟩
  go_wp2_with fail
  refine (tobyte_any A0 n0 c0 _ _ T0 w20 hs0 HL.out.size ((O0.out.rd).below HL.out (Nat.le_refl _))).mono ?_
  rintro _ w21 ⟨AZ0, cZ0, rfl, hncZ0, hw, hl⟩
  have S21 := Lib.hid hl.size
  replace V := Lib.hid (V.out.below hl (by have := S1.out; have := S2.out; have := S3.out; have := S4.out; have := S5.out; have := S6.out; have := S7.out; have := S8.out; have := S9.out; have := S10.out; have := S11.out; have := S12.out; have := S13.out; have := S14.out; have := S15.out; have := S16.out; have := S17.out; have := S18.out; have := S19.out; have := S20.out; omega))
  replace G := Lib.hid (G.out.below hl (by have := S1.out; have := S2.out; have := S3.out; have := S4.out; have := S5.out; have := S6.out; have := S7.out; have := S8.out; have := S9.out; have := S10.out; have := S11.out; have := S12.out; have := S13.out; have := S14.out; have := S15.out; have := S16.out; have := S17.out; have := S18.out; have := S19.out; have := S20.out; omega))
  replace HG := Lib.hid (HG.out.le hl)
  replace HL := Lib.hid (HL.out.trans hl)
  have Z0 := Lib.hid hw
  clear hl hw
  go_wp2_with fail
  refine (tobyte_any A1 n1 c1 _ _ T1 w21 hs1 HL.out.size ((O1.out.rd).below HL.out (Nat.le_refl _))).mono ?_
  rintro _ w22 ⟨AZ1, cZ1, rfl, hncZ1, hw, hl⟩
  have S22 := Lib.hid hl.size
  replace V := Lib.hid (V.out.below hl (by have := S1.out; have := S2.out; have := S3.out; have := S4.out; have := S5.out; have := S6.out; have := S7.out; have := S8.out; have := S9.out; have := S10.out; have := S11.out; have := S12.out; have := S13.out; have := S14.out; have := S15.out; have := S16.out; have := S17.out; have := S18.out; have := S19.out; have := S20.out; have := S21.out; omega))
  replace G := Lib.hid (G.out.below hl (by have := S1.out; have := S2.out; have := S3.out; have := S4.out; have := S5.out; have := S6.out; have := S7.out; have := S8.out; have := S9.out; have := S10.out; have := S11.out; have := S12.out; have := S13.out; have := S14.out; have := S15.out; have := S16.out; have := S17.out; have := S18.out; have := S19.out; have := S20.out; have := S21.out; omega))
  replace Z0 := Lib.hid (Z0.out.below hl (by have := S1.out; have := S2.out; have := S3.out; have := S4.out; have := S5.out; have := S6.out; have := S7.out; have := S8.out; have := S9.out; have := S10.out; have := S11.out; have := S12.out; have := S13.out; have := S14.out; have := S15.out; have := S16.out; have := S17.out; have := S18.out; have := S19.out; have := S20.out; have := S21.out; omega))
  replace HG := Lib.hid (HG.out.le hl)
  replace HL := Lib.hid (HL.out.trans hl)
  have Z1 := Lib.hid hw
  clear hl hw
  go_wp2_with fail
  refine (tobyte_any A2 n2 c2 _ _ T2 w22 hs2 HL.out.size ((O2.out.rd).below HL.out (Nat.le_refl _))).mono ?_
  rintro _ w23 ⟨AZ2, cZ2, rfl, hncZ2, hw, hl⟩
  have S23 := Lib.hid hl.size
  replace V := Lib.hid (V.out.below hl (by have := S1.out; have := S2.out; have := S3.out; have := S4.out; have := S5.out; have := S6.out; have := S7.out; have := S8.out; have := S9.out; have := S10.out; have := S11.out; have := S12.out; have := S13.out; have := S14.out; have := S15.out; have := S16.out; have := S17.out; have := S18.out; have := S19.out; have := S20.out; have := S21.out; have := S22.out; omega))
  replace G := Lib.hid (G.out.below hl (by have := S1.out; have := S2.out; have := S3.out; have := S4.out; have := S5.out; have := S6.out; have := S7.out; have := S8.out; have := S9.out; have := S10.out; have := S11.out; have := S12.out; have := S13.out; have := S14.out; have := S15.out; have := S16.out; have := S17.out; have := S18.out; have := S19.out; have := S20.out; have := S21.out; have := S22.out; omega))
  replace Z0 := Lib.hid (Z0.out.below hl (by have := S1.out; have := S2.out; have := S3.out; have := S4.out; have := S5.out; have := S6.out; have := S7.out; have := S8.out; have := S9.out; have := S10.out; have := S11.out; have := S12.out; have := S13.out; have := S14.out; have := S15.out; have := S16.out; have := S17.out; have := S18.out; have := S19.out; have := S20.out; have := S21.out; have := S22.out; omega))
  replace Z1 := Lib.hid (Z1.out.below hl (by have := S1.out; have := S2.out; have := S3.out; have := S4.out; have := S5.out; have := S6.out; have := S7.out; have := S8.out; have := S9.out; have := S10.out; have := S11.out; have := S12.out; have := S13.out; have := S14.out; have := S15.out; have := S16.out; have := S17.out; have := S18.out; have := S19.out; have := S20.out; have := S21.out; have := S22.out; omega))
  replace HG := Lib.hid (HG.out.le hl)
  replace HL := Lib.hid (HL.out.trans hl)
  have Z2 := Lib.hid hw
  clear hl hw
  go_wp2_with fail
  refine (exactmarksW (⟨Z0.out.toRd.mono (Nat.zero_le _) (by have := S1.out; have := S2.out; have := S3.out; have := S4.out; have := S5.out; have := S6.out; have := S7.out; have := S8.out; have := S9.out; have := S10.out; have := S11.out; have := S12.out; have := S13.out; have := S14.out; have := S15.out; have := S16.out; have := S17.out; have := S18.out; have := S19.out; have := S20.out; have := S21.out; have := S22.out; have := S23.out; omega), O0.out.lt, hncZ0, hs0⟩ : Bs w23 AZ0 n0 cZ0 T0) (⟨Z1.out.toRd.mono (Nat.zero_le _) (by have := S1.out; have := S2.out; have := S3.out; have := S4.out; have := S5.out; have := S6.out; have := S7.out; have := S8.out; have := S9.out; have := S10.out; have := S11.out; have := S12.out; have := S13.out; have := S14.out; have := S15.out; have := S16.out; have := S17.out; have := S18.out; have := S19.out; have := S20.out; have := S21.out; have := S22.out; have := S23.out; omega), O1.out.lt, hncZ1, hs1⟩ : Bs w23 AZ1 n1 cZ1 T1) (⟨Z2.out.toRd.mono (Nat.zero_le _) (by have := S1.out; have := S2.out; have := S3.out; have := S4.out; have := S5.out; have := S6.out; have := S7.out; have := S8.out; have := S9.out; have := S10.out; have := S11.out; have := S12.out; have := S13.out; have := S14.out; have := S15.out; have := S16.out; have := S17.out; have := S18.out; have := S19.out; have := S20.out; have := S21.out; have := S22.out; have := S23.out; omega), O2.out.lt, hncZ2, hs2⟩ : Bs w23 AZ2 n2 cZ2 T2) HG.out).mono ?_
  rintro _ w24 ⟨AQ, cQ, rfl, hncQ, hw, hl⟩
  have S24 := Lib.hid hl.size
  replace V := Lib.hid (V.out.below hl (by have := S1.out; have := S2.out; have := S3.out; have := S4.out; have := S5.out; have := S6.out; have := S7.out; have := S8.out; have := S9.out; have := S10.out; have := S11.out; have := S12.out; have := S13.out; have := S14.out; have := S15.out; have := S16.out; have := S17.out; have := S18.out; have := S19.out; have := S20.out; have := S21.out; have := S22.out; have := S23.out; omega))
  replace G := Lib.hid (G.out.below hl (by have := S1.out; have := S2.out; have := S3.out; have := S4.out; have := S5.out; have := S6.out; have := S7.out; have := S8.out; have := S9.out; have := S10.out; have := S11.out; have := S12.out; have := S13.out; have := S14.out; have := S15.out; have := S16.out; have := S17.out; have := S18.out; have := S19.out; have := S20.out; have := S21.out; have := S22.out; have := S23.out; omega))
  replace Z0 := Lib.hid (Z0.out.below hl (by have := S1.out; have := S2.out; have := S3.out; have := S4.out; have := S5.out; have := S6.out; have := S7.out; have := S8.out; have := S9.out; have := S10.out; have := S11.out; have := S12.out; have := S13.out; have := S14.out; have := S15.out; have := S16.out; have := S17.out; have := S18.out; have := S19.out; have := S20.out; have := S21.out; have := S22.out; have := S23.out; omega))
  replace Z1 := Lib.hid (Z1.out.below hl (by have := S1.out; have := S2.out; have := S3.out; have := S4.out; have := S5.out; have := S6.out; have := S7.out; have := S8.out; have := S9.out; have := S10.out; have := S11.out; have := S12.out; have := S13.out; have := S14.out; have := S15.out; have := S16.out; have := S17.out; have := S18.out; have := S19.out; have := S20.out; have := S21.out; have := S22.out; have := S23.out; omega))
  replace Z2 := Lib.hid (Z2.out.below hl (by have := S1.out; have := S2.out; have := S3.out; have := S4.out; have := S5.out; have := S6.out; have := S7.out; have := S8.out; have := S9.out; have := S10.out; have := S11.out; have := S12.out; have := S13.out; have := S14.out; have := S15.out; have := S16.out; have := S17.out; have := S18.out; have := S19.out; have := S20.out; have := S21.out; have := S22.out; have := S23.out; omega))
  replace HG := Lib.hid (HG.out.le hl)
  replace HL := Lib.hid (HL.out.trans hl)
  have Q := Lib.hid hw
  clear hl hw
  go_wp2_with fail
  refine (eqbool_any AQ AV n1 cQ cV _ _ _ _ _ _ w24 (by omega) Q.out.toRd V.out.toRd (fun _ _ => rfl)).mono ?_
  rintro _ w25 ⟨rfl, hq⟩
  have hl : Le w24 w25 := Le.of hq
  clear hq
  have S25 := Lib.hid hl.size
  replace V := Lib.hid (V.out.below hl (by have := S1.out; have := S2.out; have := S3.out; have := S4.out; have := S5.out; have := S6.out; have := S7.out; have := S8.out; have := S9.out; have := S10.out; have := S11.out; have := S12.out; have := S13.out; have := S14.out; have := S15.out; have := S16.out; have := S17.out; have := S18.out; have := S19.out; have := S20.out; have := S21.out; have := S22.out; have := S23.out; have := S24.out; omega))
  replace G := Lib.hid (G.out.below hl (by have := S1.out; have := S2.out; have := S3.out; have := S4.out; have := S5.out; have := S6.out; have := S7.out; have := S8.out; have := S9.out; have := S10.out; have := S11.out; have := S12.out; have := S13.out; have := S14.out; have := S15.out; have := S16.out; have := S17.out; have := S18.out; have := S19.out; have := S20.out; have := S21.out; have := S22.out; have := S23.out; have := S24.out; omega))
  replace Z0 := Lib.hid (Z0.out.below hl (by have := S1.out; have := S2.out; have := S3.out; have := S4.out; have := S5.out; have := S6.out; have := S7.out; have := S8.out; have := S9.out; have := S10.out; have := S11.out; have := S12.out; have := S13.out; have := S14.out; have := S15.out; have := S16.out; have := S17.out; have := S18.out; have := S19.out; have := S20.out; have := S21.out; have := S22.out; have := S23.out; have := S24.out; omega))
  replace Z1 := Lib.hid (Z1.out.below hl (by have := S1.out; have := S2.out; have := S3.out; have := S4.out; have := S5.out; have := S6.out; have := S7.out; have := S8.out; have := S9.out; have := S10.out; have := S11.out; have := S12.out; have := S13.out; have := S14.out; have := S15.out; have := S16.out; have := S17.out; have := S18.out; have := S19.out; have := S20.out; have := S21.out; have := S22.out; have := S23.out; have := S24.out; omega))
  replace Z2 := Lib.hid (Z2.out.below hl (by have := S1.out; have := S2.out; have := S3.out; have := S4.out; have := S5.out; have := S6.out; have := S7.out; have := S8.out; have := S9.out; have := S10.out; have := S11.out; have := S12.out; have := S13.out; have := S14.out; have := S15.out; have := S16.out; have := S17.out; have := S18.out; have := S19.out; have := S20.out; have := S21.out; have := S22.out; have := S23.out; have := S24.out; omega))
  replace Q := Lib.hid (Q.out.below hl (by have := S1.out; have := S2.out; have := S3.out; have := S4.out; have := S5.out; have := S6.out; have := S7.out; have := S8.out; have := S9.out; have := S10.out; have := S11.out; have := S12.out; have := S13.out; have := S14.out; have := S15.out; have := S16.out; have := S17.out; have := S18.out; have := S19.out; have := S20.out; have := S21.out; have := S22.out; have := S23.out; have := S24.out; omega))
  replace HG := Lib.hid (HG.out.le hl)
  replace HL := Lib.hid (HL.out.trans hl)
  clear hl
  go_wp2_with fail
  refine (heldbool_any AG n1 cG _ _ 1 w25 (by omega) (by omega) G.out.toRd).mono ?_
  rintro _ _ ⟨rfl, rfl⟩
  go_wp2
  go_ret
  exact ⟨rfl, HL.out⟩
end Go.Proofs.YtpkgkppehefibaaGreatDoor
