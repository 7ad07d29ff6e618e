/- The law FnExactIndexExactBytes: its walk. Printed by walks.py. -/
import Derived.Test.YtpkgkppehefibaaDoorWH
import Derived.Test.YtpkgkppehefibaaDoorH2
import Derived.Test.YtpkgkppehefibaaDoorH5
namespace Go.Proofs.YtpkgkppehefibaaDoor
open Go.RowKit Sa

set_option maxHeartbeats 8000000 in
set_option maxRecDepth 100000 in
theorem fnExactIndexExactBytes_walk {A0 : Option Addr} {n0 c0 : Nat} {T0 : Nat → Nat} {A1 : Option Addr} {n1 c1 : Nat} {T1 : Nat → Nat} (w : World) (h0 : Bq w A0 n0 c0 T0) (h1 : Bq w A1 n1 c1 T1) (hg : MaxOk w) :
    Calls Tryd.prog 8 #[.slice A0 n0 c0, .slice A1 n1 c1] w fun e w' => e = .returned (.bool true) ∧ Le w w' := by
  have HG := Lib.hid hg
  have HL := Lib.hid (Le.refl w)
  clear hg
  by_cases hbig0 : 1048576 < n0
  · have hb1 : (1048576 : Int) < (n0 : Int) := by omega
    clear HG HL
    have HL := Lib.hid (Le.refl w)
    go_enter Tryd.func8, Tryd.ntmps8
    go_wp2
    go_ret
    exact ⟨rfl, HL.out⟩
  by_cases hbig1 : 1048576 < n1
  · have hb1 : (1048576 : Int) < (n1 : Int) := by omega
    have hc0 : ¬ (1048576 : Int) < (n0 : Int) := by omega
    clear HG HL
    have HL := Lib.hid (Le.refl w)
    go_enter Tryd.func8, Tryd.ntmps8
    go_wp2
    go_ret
    exact ⟨rfl, HL.out⟩
  have hs0 : n0 < 1073741824 := by omega
  have hc0 : ¬ (1048576 : Int) < (n0 : Int) := by omega
  have O0 : Hid (Bs w A0 n0 c0 T0) := Lib.hid ⟨h0.rd, h0.lt, h0.nc, hs0⟩
  clear h0
  have hs1 : n1 < 1073741824 := by omega
  have hc1 : ¬ (1048576 : Int) < (n1 : Int) := by omega
  have O1 : Hid (Bs w A1 n1 c1 T1) := Lib.hid ⟨h1.rd, h1.lt, h1.nc, hs1⟩
  clear h1
  have OG := HG
  go_enter Tryd.func8, Tryd.ntmps8
  go_wp2_with fail
  refine (tobyte_any A0 n0 c0 _ _ T0 w hs0 HL.out.size ((O0.out.rd).below HL.out (Nat.le_refl _))).mono ?_
  rintro _ w1 ⟨AE0, cE0, rfl, hncE0, hw, hl⟩
  have S1 := Lib.hid hl.size
  replace HG := Lib.hid (HG.out.le hl)
  replace HL := Lib.hid (HL.out.trans hl)
  have E0 := Lib.hid hw
  clear hl hw
  go_wp2_with fail
  refine (tobyte_any A1 n1 c1 _ _ T1 w1 hs1 HL.out.size ((O1.out.rd).below HL.out (Nat.le_refl _))).mono ?_
  rintro _ w2 ⟨AE1, cE1, rfl, hncE1, hw, hl⟩
  have S2 := Lib.hid hl.size
  replace E0 := Lib.hid (E0.out.below hl (by have := S1.out; omega))
  replace HG := Lib.hid (HG.out.le hl)
  replace HL := Lib.hid (HL.out.trans hl)
  have E1 := Lib.hid hw
  clear hl hw
  go_wp2_with fail
  refine (specexactbytesW (⟨E0.out.toRd.mono (Nat.zero_le _) (by have := S1.out; have := S2.out; omega), O0.out.lt, hncE0, hs0⟩ : Bs w2 AE0 n0 cE0 T0) (⟨E1.out.toRd.mono (Nat.zero_le _) (by have := S1.out; have := S2.out; omega), O1.out.lt, hncE1, hs1⟩ : Bs w2 AE1 n1 cE1 T1)).mono ?_
  rintro _ w3 ⟨AV, cV, rfl, hncV, hw, hl⟩
  have S3 := Lib.hid hl.size
  replace E0 := Lib.hid (E0.out.below hl (by have := S1.out; have := S2.out; omega))
  replace E1 := Lib.hid (E1.out.below hl (by have := S1.out; have := S2.out; omega))
  replace HG := Lib.hid (HG.out.le hl)
  replace HL := Lib.hid (HL.out.trans hl)
  have V := Lib.hid hw
  clear hl hw
  clear E0
  clear E1
  go_wp2_with fail
  refine (tobyte_any A0 n0 c0 _ _ T0 w3 hs0 HL.out.size ((O0.out.rd).below HL.out (Nat.le_refl _))).mono ?_
  rintro _ w4 ⟨AX0, cX0, rfl, hncX0, hw, hl⟩
  have S4 := Lib.hid hl.size
  replace V := Lib.hid (V.out.below hl (by have := S1.out; have := S2.out; have := S3.out; omega))
  replace HG := Lib.hid (HG.out.le hl)
  replace HL := Lib.hid (HL.out.trans hl)
  have X0 := Lib.hid hw
  clear hl hw
  go_wp2_with fail
  refine (tobyte_any A1 n1 c1 _ _ T1 w4 hs1 HL.out.size ((O1.out.rd).below HL.out (Nat.le_refl _))).mono ?_
  rintro _ w5 ⟨AX1, cX1, rfl, hncX1, hw, hl⟩
  have S5 := Lib.hid hl.size
  replace V := Lib.hid (V.out.below hl (by have := S1.out; have := S2.out; have := S3.out; have := S4.out; omega))
  replace X0 := Lib.hid (X0.out.below hl (by have := S1.out; have := S2.out; have := S3.out; have := S4.out; omega))
  replace HG := Lib.hid (HG.out.le hl)
  replace HL := Lib.hid (HL.out.trans hl)
  have X1 := Lib.hid hw
  clear hl hw
  go_wp2_with fail
  refine (exactbytesW (⟨X0.out.toRd.mono (Nat.zero_le _) (by have := S1.out; have := S2.out; have := S3.out; have := S4.out; have := S5.out; omega), O0.out.lt, hncX0, hs0⟩ : Bs w5 AX0 n0 cX0 T0) (⟨X1.out.toRd.mono (Nat.zero_le _) (by have := S1.out; have := S2.out; have := S3.out; have := S4.out; have := S5.out; omega), O1.out.lt, hncX1, hs1⟩ : Bs w5 AX1 n1 cX1 T1) HG.out).mono ?_
  rintro _ w6 ⟨AG, cG, rfl, hncG, hw, hl⟩
  have S6 := Lib.hid hl.size
  replace V := Lib.hid (V.out.below hl (by have := S1.out; have := S2.out; have := S3.out; have := S4.out; have := S5.out; omega))
  replace X0 := Lib.hid (X0.out.below hl (by have := S1.out; have := S2.out; have := S3.out; have := S4.out; have := S5.out; omega))
  replace X1 := Lib.hid (X1.out.below hl (by have := S1.out; have := S2.out; have := S3.out; have := S4.out; have := S5.out; omega))
  replace HG := Lib.hid (HG.out.le hl)
  replace HL := Lib.hid (HL.out.trans hl)
  have G := Lib.hid hw
  clear hl hw
  go_wp2_with fail
  refine (eqbyte_any AG AV n1 cG cV _ _ _ _ _ _ w6 (by omega) G.out.toRd V.out.toRd (fun _ _ => rfl)).mono ?_
  rintro _ w7 ⟨rfl, hq⟩
  have hl : Le w6 w7 := Le.of hq
  clear hq
  have S7 := Lib.hid hl.size
  replace V := Lib.hid (V.out.below hl (by have := S1.out; have := S2.out; have := S3.out; have := S4.out; have := S5.out; have := S6.out; omega))
  replace X0 := Lib.hid (X0.out.below hl (by have := S1.out; have := S2.out; have := S3.out; have := S4.out; have := S5.out; have := S6.out; omega))
  replace X1 := Lib.hid (X1.out.below hl (by have := S1.out; have := S2.out; have := S3.out; have := S4.out; have := S5.out; have := S6.out; omega))
  replace G := Lib.hid (G.out.below hl (by have := S1.out; have := S2.out; have := S3.out; have := S4.out; have := S5.out; have := S6.out; omega))
  replace HG := Lib.hid (HG.out.le hl)
  replace HL := Lib.hid (HL.out.trans hl)
  clear hl
  go_wp2_with fail
  refine (tobyte_any A0 n0 c0 _ _ T0 w7 hs0 HL.out.size ((O0.out.rd).below HL.out (Nat.le_refl _))).mono ?_
  rintro _ w8 ⟨AY0, cY0, rfl, hncY0, hw, hl⟩
  have S8 := Lib.hid hl.size
  replace V := Lib.hid (V.out.below hl (by have := S1.out; have := S2.out; have := S3.out; have := S4.out; have := S5.out; have := S6.out; have := S7.out; omega))
  replace X0 := Lib.hid (X0.out.below hl (by have := S1.out; have := S2.out; have := S3.out; have := S4.out; have := S5.out; have := S6.out; have := S7.out; omega))
  replace X1 := Lib.hid (X1.out.below hl (by have := S1.out; have := S2.out; have := S3.out; have := S4.out; have := S5.out; have := S6.out; have := S7.out; omega))
  replace G := Lib.hid (G.out.below hl (by have := S1.out; have := S2.out; have := S3.out; have := S4.out; have := S5.out; have := S6.out; have := S7.out; omega))
  replace HG := Lib.hid (HG.out.le hl)
  replace HL := Lib.hid (HL.out.trans hl)
  have Y0 := Lib.hid hw
  clear hl hw
  go_wp2_with fail
  refine (eqbyte_any AX0 AY0 n0 cX0 cY0 _ _ _ _ _ _ w8 (by omega) X0.out.toRd Y0.out.toRd (fun _ _ => rfl)).mono ?_
  rintro _ w9 ⟨rfl, hq⟩
  have hl : Le w8 w9 := Le.of hq
  clear hq
  have S9 := Lib.hid hl.size
  replace V := Lib.hid (V.out.below hl (by have := S1.out; have := S2.out; have := S3.out; have := S4.out; have := S5.out; have := S6.out; have := S7.out; have := S8.out; omega))
  replace X0 := Lib.hid (X0.out.below hl (by have := S1.out; have := S2.out; have := S3.out; have := S4.out; have := S5.out; have := S6.out; have := S7.out; have := S8.out; omega))
  replace X1 := Lib.hid (X1.out.below hl (by have := S1.out; have := S2.out; have := S3.out; have := S4.out; have := S5.out; have := S6.out; have := S7.out; have := S8.out; omega))
  replace G := Lib.hid (G.out.below hl (by have := S1.out; have := S2.out; have := S3.out; have := S4.out; have := S5.out; have := S6.out; have := S7.out; have := S8.out; omega))
  replace Y0 := Lib.hid (Y0.out.below hl (by have := S1.out; have := S2.out; have := S3.out; have := S4.out; have := S5.out; have := S6.out; have := S7.out; have := S8.out; omega))
  replace HG := Lib.hid (HG.out.le hl)
  replace HL := Lib.hid (HL.out.trans hl)
  clear hl
  clear Y0
  go_wp2_with fail
  refine (tobyte_any A1 n1 c1 _ _ T1 w9 hs1 HL.out.size ((O1.out.rd).below HL.out (Nat.le_refl _))).mono ?_
  rintro _ w10 ⟨AY1, cY1, rfl, hncY1, hw, hl⟩
  have S10 := Lib.hid hl.size
  replace V := Lib.hid (V.out.below hl (by have := S1.out; have := S2.out; have := S3.out; have := S4.out; have := S5.out; have := S6.out; have := S7.out; have := S8.out; have := S9.out; omega))
  replace X0 := Lib.hid (X0.out.below hl (by have := S1.out; have := S2.out; have := S3.out; have := S4.out; have := S5.out; have := S6.out; have := S7.out; have := S8.out; have := S9.out; omega))
  replace X1 := Lib.hid (X1.out.below hl (by have := S1.out; have := S2.out; have := S3.out; have := S4.out; have := S5.out; have := S6.out; have := S7.out; have := S8.out; have := S9.out; omega))
  replace G := Lib.hid (G.out.below hl (by have := S1.out; have := S2.out; have := S3.out; have := S4.out; have := S5.out; have := S6.out; have := S7.out; have := S8.out; have := S9.out; omega))
  replace HG := Lib.hid (HG.out.le hl)
  replace HL := Lib.hid (HL.out.trans hl)
  have Y1 := Lib.hid hw
  clear hl hw
  go_wp2_with fail
  refine (eqbyte_any AX1 AY1 n1 cX1 cY1 _ _ _ _ _ _ w10 (by omega) X1.out.toRd Y1.out.toRd (fun _ _ => rfl)).mono ?_
  rintro _ w11 ⟨rfl, hq⟩
  have hl : Le w10 w11 := Le.of hq
  clear hq
  have S11 := Lib.hid hl.size
  replace V := Lib.hid (V.out.below hl (by have := S1.out; have := S2.out; have := S3.out; have := S4.out; have := S5.out; have := S6.out; have := S7.out; have := S8.out; have := S9.out; have := S10.out; omega))
  replace X0 := Lib.hid (X0.out.below hl (by have := S1.out; have := S2.out; have := S3.out; have := S4.out; have := S5.out; have := S6.out; have := S7.out; have := S8.out; have := S9.out; have := S10.out; omega))
  replace X1 := Lib.hid (X1.out.below hl (by have := S1.out; have := S2.out; have := S3.out; have := S4.out; have := S5.out; have := S6.out; have := S7.out; have := S8.out; have := S9.out; have := S10.out; omega))
  replace G := Lib.hid (G.out.below hl (by have := S1.out; have := S2.out; have := S3.out; have := S4.out; have := S5.out; have := S6.out; have := S7.out; have := S8.out; have := S9.out; have := S10.out; omega))
  replace Y1 := Lib.hid (Y1.out.below hl (by have := S1.out; have := S2.out; have := S3.out; have := S4.out; have := S5.out; have := S6.out; have := S7.out; have := S8.out; have := S9.out; have := S10.out; omega))
  replace HG := Lib.hid (HG.out.le hl)
  replace HL := Lib.hid (HL.out.trans hl)
  clear hl
  clear Y1
  go_wp2_with fail
  refine (markbyte_any AX0 n0 cX0 _ _ 1 _ w11 (by omega) (by omega) X0.out (fun i _ => ⟨_, rfl⟩)).mono ?_
  rintro _ w12 ⟨rfl, hw, hch⟩
  have S12 := Lib.hid hch.size
  replace V := Lib.hid (V.out.chg (by have := S1.out; have := S2.out; have := S3.out; have := S4.out; have := S5.out; have := S6.out; have := S7.out; have := S8.out; have := S9.out; have := S10.out; have := S11.out; omega) hch (fun b _ h1 h2 h3 => by have := S1.out; have := S2.out; have := S3.out; have := S4.out; have := S5.out; have := S6.out; have := S7.out; have := S8.out; have := S9.out; have := S10.out; have := S11.out; omega))
  replace X1 := Lib.hid (X1.out.chg (by have := S1.out; have := S2.out; have := S3.out; have := S4.out; have := S5.out; have := S6.out; have := S7.out; have := S8.out; have := S9.out; have := S10.out; have := S11.out; omega) hch (fun b _ h1 h2 h3 => by have := S1.out; have := S2.out; have := S3.out; have := S4.out; have := S5.out; have := S6.out; have := S7.out; have := S8.out; have := S9.out; have := S10.out; have := S11.out; omega))
  replace G := Lib.hid (G.out.chg (by have := S1.out; have := S2.out; have := S3.out; have := S4.out; have := S5.out; have := S6.out; have := S7.out; have := S8.out; have := S9.out; have := S10.out; have := S11.out; omega) hch (fun b _ h1 h2 h3 => by have := S1.out; have := S2.out; have := S3.out; have := S4.out; have := S5.out; have := S6.out; have := S7.out; have := S8.out; have := S9.out; have := S10.out; have := S11.out; omega))
  have hbl : Below w.heap.size w11 w12 := hch.below (by have := S1.out; have := S2.out; have := S3.out; have := S4.out; have := S5.out; have := S6.out; have := S7.out; have := S8.out; have := S9.out; have := S10.out; have := S11.out; omega) (fun b _ h => by have := S1.out; have := S2.out; have := S3.out; have := S4.out; have := S5.out; have := S6.out; have := S7.out; have := S8.out; have := S9.out; have := S10.out; have := S11.out; have := h.1; omega)
  replace HL : Hid (Le w w12) := Lib.hid (Below.trans HL.out hbl)
  replace HG := Lib.hid (OG.out.le HL.out)
  replace X0 := Lib.hid hw
  clear hw hch hbl
  go_wp2_with fail
  rw [show (1 : Int) + (n0 : Int) = (((1 + n0) : Nat) : Int) by omega]
  refine (markbyte_any AX1 n1 cX1 _ _ (1 + n0) _ w12 (by omega) (by omega) X1.out (fun i _ => ⟨_, rfl⟩)).mono ?_
  rintro _ w13 ⟨rfl, hw, hch⟩
  have S13 := Lib.hid hch.size
  replace V := Lib.hid (V.out.chg (by have := S1.out; have := S2.out; have := S3.out; have := S4.out; have := S5.out; have := S6.out; have := S7.out; have := S8.out; have := S9.out; have := S10.out; have := S11.out; have := S12.out; omega) hch (fun b _ h1 h2 h3 => by have := S1.out; have := S2.out; have := S3.out; have := S4.out; have := S5.out; have := S6.out; have := S7.out; have := S8.out; have := S9.out; have := S10.out; have := S11.out; have := S12.out; omega))
  replace X0 := Lib.hid (X0.out.chg (by have := S1.out; have := S2.out; have := S3.out; have := S4.out; have := S5.out; have := S6.out; have := S7.out; have := S8.out; have := S9.out; have := S10.out; have := S11.out; have := S12.out; omega) hch (fun b _ h1 h2 h3 => by have := S1.out; have := S2.out; have := S3.out; have := S4.out; have := S5.out; have := S6.out; have := S7.out; have := S8.out; have := S9.out; have := S10.out; have := S11.out; have := S12.out; omega))
  replace G := Lib.hid (G.out.chg (by have := S1.out; have := S2.out; have := S3.out; have := S4.out; have := S5.out; have := S6.out; have := S7.out; have := S8.out; have := S9.out; have := S10.out; have := S11.out; have := S12.out; omega) hch (fun b _ h1 h2 h3 => by have := S1.out; have := S2.out; have := S3.out; have := S4.out; have := S5.out; have := S6.out; have := S7.out; have := S8.out; have := S9.out; have := S10.out; have := S11.out; have := S12.out; omega))
  have hbl : Below w.heap.size w12 w13 := hch.below (by have := S1.out; have := S2.out; have := S3.out; have := S4.out; have := S5.out; have := S6.out; have := S7.out; have := S8.out; have := S9.out; have := S10.out; have := S11.out; have := S12.out; omega) (fun b _ h => by have := S1.out; have := S2.out; have := S3.out; have := S4.out; have := S5.out; have := S6.out; have := S7.out; have := S8.out; have := S9.out; have := S10.out; have := S11.out; have := S12.out; have := h.1; omega)
  replace HL : Hid (Le w w13) := Lib.hid (Below.trans HL.out hbl)
  replace HG := Lib.hid (OG.out.le HL.out)
  replace X1 := Lib.hid hw
  clear hw hch hbl
  have hkk : decide ((1 : Int) + (n0 : Int) + (n1 : Int) < 0) = false := decide_eq_false (by omega)
  go_wp2_with fail
  refine (eqbyte_any AG AV n1 cG cV _ _ _ _ _ _ w13 (by omega) G.out.toRd V.out.toRd (fun _ _ => rfl)).mono ?_
  rintro _ w14 ⟨rfl, hq⟩
  have hl : Le w13 w14 := Le.of hq
  clear hq
  have S14 := Lib.hid hl.size
  replace V := Lib.hid (V.out.below hl (by have := S1.out; have := S2.out; have := S3.out; have := S4.out; have := S5.out; have := S6.out; have := S7.out; have := S8.out; have := S9.out; have := S10.out; have := S11.out; have := S12.out; have := S13.out; omega))
  replace X0 := Lib.hid (X0.out.below hl (by have := S1.out; have := S2.out; have := S3.out; have := S4.out; have := S5.out; have := S6.out; have := S7.out; have := S8.out; have := S9.out; have := S10.out; have := S11.out; have := S12.out; have := S13.out; omega))
  replace X1 := Lib.hid (X1.out.below hl (by have := S1.out; have := S2.out; have := S3.out; have := S4.out; have := S5.out; have := S6.out; have := S7.out; have := S8.out; have := S9.out; have := S10.out; have := S11.out; have := S12.out; have := S13.out; omega))
  replace G := Lib.hid (G.out.below hl (by have := S1.out; have := S2.out; have := S3.out; have := S4.out; have := S5.out; have := S6.out; have := S7.out; have := S8.out; have := S9.out; have := S10.out; have := S11.out; have := S12.out; have := S13.out; omega))
  replace HG := Lib.hid (HG.out.le hl)
  replace HL := Lib.hid (HL.out.trans hl)
  clear hl
  clear X0
  clear X1
  go_wp2_with fail
  refine (markbyte_any AG n1 cG _ _ 1 _ w14 (by omega) (by omega) G.out (fun i _ => ⟨_, rfl⟩)).mono ?_
  rintro _ w15 ⟨rfl, hw, hch⟩
  have S15 := Lib.hid hch.size
  replace V := Lib.hid (V.out.chg (by have := S1.out; have := S2.out; have := S3.out; have := S4.out; have := S5.out; have := S6.out; have := S7.out; have := S8.out; have := S9.out; have := S10.out; have := S11.out; have := S12.out; have := S13.out; have := S14.out; omega) hch (fun b _ h1 h2 h3 => by have := S1.out; have := S2.out; have := S3.out; have := S4.out; have := S5.out; have := S6.out; have := S7.out; have := S8.out; have := S9.out; have := S10.out; have := S11.out; have := S12.out; have := S13.out; have := S14.out; omega))
  have hbl : Below w.heap.size w14 w15 := hch.below (by have := S1.out; have := S2.out; have := S3.out; have := S4.out; have := S5.out; have := S6.out; have := S7.out; have := S8.out; have := S9.out; have := S10.out; have := S11.out; have := S12.out; have := S13.out; have := S14.out; omega) (fun b _ h => by have := S1.out; have := S2.out; have := S3.out; have := S4.out; have := S5.out; have := S6.out; have := S7.out; have := S8.out; have := S9.out; have := S10.out; have := S11.out; have := S12.out; have := S13.out; have := S14.out; have := h.1; omega)
  replace HL : Hid (Le w w15) := Lib.hid (Below.trans HL.out hbl)
  replace HG := Lib.hid (OG.out.le HL.out)
  replace G := Lib.hid hw
  clear hw hch hbl
  go_wp2_with fail
  refine (heldbyte_any AG n1 cG _ _ 1 w15 (by omega) (by omega) G.out.toRd).mono ?_
  rintro _ _ ⟨rfl, rfl⟩
  go_wp2_with fail
  refine (tobyte_any A0 n0 c0 _ _ T0 w15 hs0 HL.out.size ((O0.out.rd).below HL.out (Nat.le_refl _))).mono ?_
  rintro _ w16 ⟨AZ0, cZ0, rfl, hncZ0, hw, hl⟩
  have S16 := Lib.hid hl.size
  replace V := Lib.hid (V.out.below hl (by have := S1.out; have := S2.out; have := S3.out; have := S4.out; have := S5.out; have := S6.out; have := S7.out; have := S8.out; have := S9.out; have := S10.out; have := S11.out; have := S12.out; have := S13.out; have := S14.out; have := S15.out; omega))
  replace G := Lib.hid (G.out.below hl (by have := S1.out; have := S2.out; have := S3.out; have := S4.out; have := S5.out; have := S6.out; have := S7.out; have := S8.out; have := S9.out; have := S10.out; have := S11.out; have := S12.out; have := S13.out; have := S14.out; have := S15.out; omega))
  replace HG := Lib.hid (HG.out.le hl)
  replace HL := Lib.hid (HL.out.trans hl)
  have Z0 := Lib.hid hw
  clear hl hw
  go_wp2_with fail
  refine (tobyte_any A1 n1 c1 _ _ T1 w16 hs1 HL.out.size ((O1.out.rd).below HL.out (Nat.le_refl _))).mono ?_
  rintro _ w17 ⟨AZ1, cZ1, rfl, hncZ1, hw, hl⟩
  have S17 := Lib.hid hl.size
  replace V := Lib.hid (V.out.below hl (by have := S1.out; have := S2.out; have := S3.out; have := S4.out; have := S5.out; have := S6.out; have := S7.out; have := S8.out; have := S9.out; have := S10.out; have := S11.out; have := S12.out; have := S13.out; have := S14.out; have := S15.out; have := S16.out; omega))
  replace G := Lib.hid (G.out.below hl (by have := S1.out; have := S2.out; have := S3.out; have := S4.out; have := S5.out; have := S6.out; have := S7.out; have := S8.out; have := S9.out; have := S10.out; have := S11.out; have := S12.out; have := S13.out; have := S14.out; have := S15.out; have := S16.out; omega))
  replace Z0 := Lib.hid (Z0.out.below hl (by have := S1.out; have := S2.out; have := S3.out; have := S4.out; have := S5.out; have := S6.out; have := S7.out; have := S8.out; have := S9.out; have := S10.out; have := S11.out; have := S12.out; have := S13.out; have := S14.out; have := S15.out; have := S16.out; omega))
  replace HG := Lib.hid (HG.out.le hl)
  replace HL := Lib.hid (HL.out.trans hl)
  have Z1 := Lib.hid hw
  clear hl hw
  go_wp2_with fail
  refine (exactbytesW (⟨Z0.out.toRd.mono (Nat.zero_le _) (by have := S1.out; have := S2.out; have := S3.out; have := S4.out; have := S5.out; have := S6.out; have := S7.out; have := S8.out; have := S9.out; have := S10.out; have := S11.out; have := S12.out; have := S13.out; have := S14.out; have := S15.out; have := S16.out; have := S17.out; omega), O0.out.lt, hncZ0, hs0⟩ : Bs w17 AZ0 n0 cZ0 T0) (⟨Z1.out.toRd.mono (Nat.zero_le _) (by have := S1.out; have := S2.out; have := S3.out; have := S4.out; have := S5.out; have := S6.out; have := S7.out; have := S8.out; have := S9.out; have := S10.out; have := S11.out; have := S12.out; have := S13.out; have := S14.out; have := S15.out; have := S16.out; have := S17.out; omega), O1.out.lt, hncZ1, hs1⟩ : Bs w17 AZ1 n1 cZ1 T1) HG.out).mono ?_
  rintro _ w18 ⟨AQ, cQ, rfl, hncQ, hw, hl⟩
  have S18 := Lib.hid hl.size
  replace V := Lib.hid (V.out.below hl (by have := S1.out; have := S2.out; have := S3.out; have := S4.out; have := S5.out; have := S6.out; have := S7.out; have := S8.out; have := S9.out; have := S10.out; have := S11.out; have := S12.out; have := S13.out; have := S14.out; have := S15.out; have := S16.out; have := S17.out; omega))
  replace G := Lib.hid (G.out.below hl (by have := S1.out; have := S2.out; have := S3.out; have := S4.out; have := S5.out; have := S6.out; have := S7.out; have := S8.out; have := S9.out; have := S10.out; have := S11.out; have := S12.out; have := S13.out; have := S14.out; have := S15.out; have := S16.out; have := S17.out; omega))
  replace Z0 := Lib.hid (Z0.out.below hl (by have := S1.out; have := S2.out; have := S3.out; have := S4.out; have := S5.out; have := S6.out; have := S7.out; have := S8.out; have := S9.out; have := S10.out; have := S11.out; have := S12.out; have := S13.out; have := S14.out; have := S15.out; have := S16.out; have := S17.out; omega))
  replace Z1 := Lib.hid (Z1.out.below hl (by have := S1.out; have := S2.out; have := S3.out; have := S4.out; have := S5.out; have := S6.out; have := S7.out; have := S8.out; have := S9.out; have := S10.out; have := S11.out; have := S12.out; have := S13.out; have := S14.out; have := S15.out; have := S16.out; have := S17.out; omega))
  replace HG := Lib.hid (HG.out.le hl)
  replace HL := Lib.hid (HL.out.trans hl)
  have Q := Lib.hid hw
  clear hl hw
  go_wp2_with fail
  refine (eqbyte_any AQ AV n1 cQ cV _ _ _ _ _ _ w18 (by omega) Q.out.toRd V.out.toRd (fun _ _ => rfl)).mono ?_
  rintro _ w19 ⟨rfl, hq⟩
  have hl : Le w18 w19 := Le.of hq
  clear hq
  have S19 := Lib.hid hl.size
  replace V := Lib.hid (V.out.below hl (by have := S1.out; have := S2.out; have := S3.out; have := S4.out; have := S5.out; have := S6.out; have := S7.out; have := S8.out; have := S9.out; have := S10.out; have := S11.out; have := S12.out; have := S13.out; have := S14.out; have := S15.out; have := S16.out; have := S17.out; have := S18.out; omega))
  replace G := Lib.hid (G.out.below hl (by have := S1.out; have := S2.out; have := S3.out; have := S4.out; have := S5.out; have := S6.out; have := S7.out; have := S8.out; have := S9.out; have := S10.out; have := S11.out; have := S12.out; have := S13.out; have := S14.out; have := S15.out; have := S16.out; have := S17.out; have := S18.out; omega))
  replace Z0 := Lib.hid (Z0.out.below hl (by have := S1.out; have := S2.out; have := S3.out; have := S4.out; have := S5.out; have := S6.out; have := S7.out; have := S8.out; have := S9.out; have := S10.out; have := S11.out; have := S12.out; have := S13.out; have := S14.out; have := S15.out; have := S16.out; have := S17.out; have := S18.out; omega))
  replace Z1 := Lib.hid (Z1.out.below hl (by have := S1.out; have := S2.out; have := S3.out; have := S4.out; have := S5.out; have := S6.out; have := S7.out; have := S8.out; have := S9.out; have := S10.out; have := S11.out; have := S12.out; have := S13.out; have := S14.out; have := S15.out; have := S16.out; have := S17.out; have := S18.out; omega))
  replace Q := Lib.hid (Q.out.below hl (by have := S1.out; have := S2.out; have := S3.out; have := S4.out; have := S5.out; have := S6.out; have := S7.out; have := S8.out; have := S9.out; have := S10.out; have := S11.out; have := S12.out; have := S13.out; have := S14.out; have := S15.out; have := S16.out; have := S17.out; have := S18.out; omega))
  replace HG := Lib.hid (HG.out.le hl)
  replace HL := Lib.hid (HL.out.trans hl)
  clear hl
  go_wp2_with fail
  refine (heldbyte_any AG n1 cG _ _ 1 w19 (by omega) (by omega) G.out.toRd).mono ?_
  rintro _ _ ⟨rfl, rfl⟩
  go_wp2
  go_ret
  exact ⟨rfl, HL.out⟩
end Go.Proofs.YtpkgkppehefibaaDoor
