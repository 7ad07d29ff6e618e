/- The law FnExactIndexCopyBytes: its walk. Printed by walks.py. -/
import Derived.Test.YtpkgkppehefibaaDoorWH
import Derived.Test.YtpkgkppehefibaaDoorH2
import Derived.Test.YtpkgkppehefibaaDoorH5
namespace Go.Proofs.YtpkgkppehefibaaDoor
open Go.RowKit Sa

set_option maxHeartbeats 8000000 in
set_option maxRecDepth 100000 in
theorem fnExactIndexCopyBytes_walk {A0 : Option Addr} {n0 c0 : Nat} {T0 : Nat → Nat} (w : World) (h0 : Bq w A0 n0 c0 T0) (hg : MaxOk w) :
    Calls Tryd.prog 7 #[.slice A0 n0 c0] w fun e w' => e = .returned (.bool true) ∧ Le w w' := by
  have HG := Lib.hid hg
  have HL := Lib.hid (Le.refl w)
  clear hg
  by_cases hbig0 : 1048576 < n0
  · have hb1 : (1048576 : Int) < (n0 : Int) := by omega
    clear HG HL
    have HL := Lib.hid (Le.refl w)
    go_enter Tryd.func7, Tryd.ntmps7
    go_wp2
    go_ret
    exact ⟨rfl, HL.out⟩
  have hs0 : n0 < 1073741824 := by omega
  have hc0 : ¬ (1048576 : Int) < (n0 : Int) := by omega
  have O0 : Hid (Bs w A0 n0 c0 T0) := Lib.hid ⟨h0.rd, h0.lt, h0.nc, hs0⟩
  clear h0
  have OG := HG
  go_enter Tryd.func7, Tryd.ntmps7
  go_wp2_with fail
  refine (tobyte_any A0 n0 c0 _ _ T0 w hs0 HL.out.size ((O0.out.rd).below HL.out (Nat.le_refl _))).mono ?_
  rintro _ w1 ⟨AE0, cE0, rfl, hncE0, hw, hl⟩
  have S1 := Lib.hid hl.size
  replace HG := Lib.hid (HG.out.le hl)
  replace HL := Lib.hid (HL.out.trans hl)
  have E0 := Lib.hid hw
  clear hl hw
  go_wp2_with fail
  refine (speccopybytesW (⟨E0.out.toRd.mono (Nat.zero_le _) (by have := S1.out; omega), O0.out.lt, hncE0, hs0⟩ : Bs w1 AE0 n0 cE0 T0)).mono ?_
  rintro _ w2 ⟨AV, cV, rfl, hncV, hw, hl⟩
  have S2 := Lib.hid hl.size
  replace E0 := Lib.hid (E0.out.below hl (by have := S1.out; omega))
  replace HG := Lib.hid (HG.out.le hl)
  replace HL := Lib.hid (HL.out.trans hl)
  have V := Lib.hid hw
  clear hl hw
  clear E0
  go_wp2_with fail
  refine (tobyte_any A0 n0 c0 _ _ T0 w2 hs0 HL.out.size ((O0.out.rd).below HL.out (Nat.le_refl _))).mono ?_
  rintro _ w3 ⟨AX0, cX0, rfl, hncX0, hw, hl⟩
  have S3 := Lib.hid hl.size
  replace V := Lib.hid (V.out.below hl (by have := S1.out; have := S2.out; omega))
  replace HG := Lib.hid (HG.out.le hl)
  replace HL := Lib.hid (HL.out.trans hl)
  have X0 := Lib.hid hw
  clear hl hw
  go_wp2_with fail
  refine (copybytesW (⟨X0.out.toRd.mono (Nat.zero_le _) (by have := S1.out; have := S2.out; have := S3.out; omega), O0.out.lt, hncX0, hs0⟩ : Bs w3 AX0 n0 cX0 T0) HG.out).mono ?_
  rintro _ w4 ⟨AG, cG, rfl, hncG, hw, hl⟩
  have S4 := Lib.hid hl.size
  replace V := Lib.hid (V.out.below hl (by have := S1.out; have := S2.out; have := S3.out; omega))
  replace X0 := Lib.hid (X0.out.below hl (by have := S1.out; have := S2.out; have := S3.out; omega))
  replace HG := Lib.hid (HG.out.le hl)
  replace HL := Lib.hid (HL.out.trans hl)
  have G := Lib.hid hw
  clear hl hw
  go_wp2_with fail
  refine (eqbyte_any AG AV n0 cG cV _ _ _ _ _ _ w4 (by omega) G.out.toRd V.out.toRd (fun _ _ => rfl)).mono ?_
  rintro _ w5 ⟨rfl, hq⟩
  have hl : Le w4 w5 := Le.of hq
  clear hq
  have S5 := Lib.hid hl.size
  replace V := Lib.hid (V.out.below hl (by have := S1.out; have := S2.out; have := S3.out; have := S4.out; omega))
  replace X0 := Lib.hid (X0.out.below hl (by have := S1.out; have := S2.out; have := S3.out; have := S4.out; omega))
  replace G := Lib.hid (G.out.below hl (by have := S1.out; have := S2.out; have := S3.out; have := S4.out; omega))
  replace HG := Lib.hid (HG.out.le hl)
  replace HL := Lib.hid (HL.out.trans hl)
  clear hl
  go_wp2_with fail
  refine (tobyte_any A0 n0 c0 _ _ T0 w5 hs0 HL.out.size ((O0.out.rd).below HL.out (Nat.le_refl _))).mono ?_
  rintro _ w6 ⟨AY0, cY0, rfl, hncY0, hw, hl⟩
  have S6 := Lib.hid hl.size
  replace V := Lib.hid (V.out.below hl (by have := S1.out; have := S2.out; have := S3.out; have := S4.out; have := S5.out; omega))
  replace X0 := Lib.hid (X0.out.below hl (by have := S1.out; have := S2.out; have := S3.out; have := S4.out; have := S5.out; omega))
  replace G := Lib.hid (G.out.below hl (by have := S1.out; have := S2.out; have := S3.out; have := S4.out; have := S5.out; omega))
  replace HG := Lib.hid (HG.out.le hl)
  replace HL := Lib.hid (HL.out.trans hl)
  have Y0 := Lib.hid hw
  clear hl hw
  go_wp2_with fail
  refine (eqbyte_any AX0 AY0 n0 cX0 cY0 _ _ _ _ _ _ w6 (by omega) X0.out.toRd Y0.out.toRd (fun _ _ => rfl)).mono ?_
  rintro _ w7 ⟨rfl, hq⟩
  have hl : Le w6 w7 := Le.of hq
  clear hq
  have S7 := Lib.hid hl.size
  replace V := Lib.hid (V.out.below hl (by have := S1.out; have := S2.out; have := S3.out; have := S4.out; have := S5.out; have := S6.out; omega))
  replace X0 := Lib.hid (X0.out.below hl (by have := S1.out; have := S2.out; have := S3.out; have := S4.out; have := S5.out; have := S6.out; omega))
  replace G := Lib.hid (G.out.below hl (by have := S1.out; have := S2.out; have := S3.out; have := S4.out; have := S5.out; have := S6.out; omega))
  replace Y0 := Lib.hid (Y0.out.below hl (by have := S1.out; have := S2.out; have := S3.out; have := S4.out; have := S5.out; have := S6.out; omega))
  replace HG := Lib.hid (HG.out.le hl)
  replace HL := Lib.hid (HL.out.trans hl)
  clear hl
  clear Y0
  go_wp2_with fail
  refine (markbyte_any AX0 n0 cX0 _ _ 1 _ w7 (by omega) (by omega) X0.out (fun i _ => ⟨_, rfl⟩)).mono ?_
  rintro _ w8 ⟨rfl, hw, hch⟩
  have S8 := Lib.hid hch.size
  replace V := Lib.hid (V.out.chg (by have := S1.out; have := S2.out; have := S3.out; have := S4.out; have := S5.out; have := S6.out; have := S7.out; omega) hch (fun b _ h1 h2 h3 => by have := S1.out; have := S2.out; have := S3.out; have := S4.out; have := S5.out; have := S6.out; have := S7.out; omega))
  replace G := Lib.hid (G.out.chg (by have := S1.out; have := S2.out; have := S3.out; have := S4.out; have := S5.out; have := S6.out; have := S7.out; omega) hch (fun b _ h1 h2 h3 => by have := S1.out; have := S2.out; have := S3.out; have := S4.out; have := S5.out; have := S6.out; have := S7.out; omega))
  have hbl : Below w.heap.size w7 w8 := hch.below (by have := S1.out; have := S2.out; have := S3.out; have := S4.out; have := S5.out; have := S6.out; have := S7.out; omega) (fun b _ h => by have := S1.out; have := S2.out; have := S3.out; have := S4.out; have := S5.out; have := S6.out; have := S7.out; have := h.1; omega)
  replace HL : Hid (Le w w8) := Lib.hid (Below.trans HL.out hbl)
  replace HG := Lib.hid (OG.out.le HL.out)
  replace X0 := Lib.hid hw
  clear hw hch hbl
  have hkk : decide ((1 : Int) + (n0 : Int) < 0) = false := decide_eq_false (by omega)
  go_wp2_with fail
  refine (eqbyte_any AG AV n0 cG cV _ _ _ _ _ _ w8 (by omega) G.out.toRd V.out.toRd (fun _ _ => rfl)).mono ?_
  rintro _ w9 ⟨rfl, hq⟩
  have hl : Le w8 w9 := Le.of hq
  clear hq
  have S9 := Lib.hid hl.size
  replace V := Lib.hid (V.out.below hl (by have := S1.out; have := S2.out; have := S3.out; have := S4.out; have := S5.out; have := S6.out; have := S7.out; have := S8.out; omega))
  replace X0 := Lib.hid (X0.out.below hl (by have := S1.out; have := S2.out; have := S3.out; have := S4.out; have := S5.out; have := S6.out; have := S7.out; have := S8.out; omega))
  replace G := Lib.hid (G.out.below hl (by have := S1.out; have := S2.out; have := S3.out; have := S4.out; have := S5.out; have := S6.out; have := S7.out; have := S8.out; omega))
  replace HG := Lib.hid (HG.out.le hl)
  replace HL := Lib.hid (HL.out.trans hl)
  clear hl
  clear X0
  go_wp2_with fail
  refine (markbyte_any AG n0 cG _ _ 1 _ w9 (by omega) (by omega) G.out (fun i _ => ⟨_, rfl⟩)).mono ?_
  rintro _ w10 ⟨rfl, hw, hch⟩
  have S10 := Lib.hid hch.size
  replace V := Lib.hid (V.out.chg (by have := S1.out; have := S2.out; have := S3.out; have := S4.out; have := S5.out; have := S6.out; have := S7.out; have := S8.out; have := S9.out; omega) hch (fun b _ h1 h2 h3 => by have := S1.out; have := S2.out; have := S3.out; have := S4.out; have := S5.out; have := S6.out; have := S7.out; have := S8.out; have := S9.out; omega))
  have hbl : Below w.heap.size w9 w10 := hch.below (by have := S1.out; have := S2.out; have := S3.out; have := S4.out; have := S5.out; have := S6.out; have := S7.out; have := S8.out; have := S9.out; omega) (fun b _ h => by have := S1.out; have := S2.out; have := S3.out; have := S4.out; have := S5.out; have := S6.out; have := S7.out; have := S8.out; have := S9.out; have := h.1; omega)
  replace HL : Hid (Le w w10) := Lib.hid (Below.trans HL.out hbl)
  replace HG := Lib.hid (OG.out.le HL.out)
  replace G := Lib.hid hw
  clear hw hch hbl
  go_wp2_with fail
  refine (heldbyte_any AG n0 cG _ _ 1 w10 (by omega) (by omega) G.out.toRd).mono ?_
  rintro _ _ ⟨rfl, rfl⟩
  go_wp2_with fail
  refine (tobyte_any A0 n0 c0 _ _ T0 w10 hs0 HL.out.size ((O0.out.rd).below HL.out (Nat.le_refl _))).mono ?_
  rintro _ w11 ⟨AZ0, cZ0, rfl, hncZ0, hw, hl⟩
  have S11 := Lib.hid hl.size
  replace V := Lib.hid (V.out.below hl (by have := S1.out; have := S2.out; have := S3.out; have := S4.out; have := S5.out; have := S6.out; have := S7.out; have := S8.out; have := S9.out; have := S10.out; omega))
  replace G := Lib.hid (G.out.below hl (by have := S1.out; have := S2.out; have := S3.out; have := S4.out; have := S5.out; have := S6.out; have := S7.out; have := S8.out; have := S9.out; have := S10.out; omega))
  replace HG := Lib.hid (HG.out.le hl)
  replace HL := Lib.hid (HL.out.trans hl)
  have Z0 := Lib.hid hw
  clear hl hw
  go_wp2_with fail
  refine (copybytesW (⟨Z0.out.toRd.mono (Nat.zero_le _) (by have := S1.out; have := S2.out; have := S3.out; have := S4.out; have := S5.out; have := S6.out; have := S7.out; have := S8.out; have := S9.out; have := S10.out; have := S11.out; omega), O0.out.lt, hncZ0, hs0⟩ : Bs w11 AZ0 n0 cZ0 T0) HG.out).mono ?_
  rintro _ w12 ⟨AQ, cQ, rfl, hncQ, hw, hl⟩
  have S12 := Lib.hid hl.size
  replace V := Lib.hid (V.out.below hl (by have := S1.out; have := S2.out; have := S3.out; have := S4.out; have := S5.out; have := S6.out; have := S7.out; have := S8.out; have := S9.out; have := S10.out; have := S11.out; omega))
  replace G := Lib.hid (G.out.below hl (by have := S1.out; have := S2.out; have := S3.out; have := S4.out; have := S5.out; have := S6.out; have := S7.out; have := S8.out; have := S9.out; have := S10.out; have := S11.out; omega))
  replace Z0 := Lib.hid (Z0.out.below hl (by have := S1.out; have := S2.out; have := S3.out; have := S4.out; have := S5.out; have := S6.out; have := S7.out; have := S8.out; have := S9.out; have := S10.out; have := S11.out; omega))
  replace HG := Lib.hid (HG.out.le hl)
  replace HL := Lib.hid (HL.out.trans hl)
  have Q := Lib.hid hw
  clear hl hw
  go_wp2_with fail
  refine (eqbyte_any AQ AV n0 cQ cV _ _ _ _ _ _ w12 (by omega) Q.out.toRd V.out.toRd (fun _ _ => rfl)).mono ?_
  rintro _ w13 ⟨rfl, hq⟩
  have hl : Le w12 w13 := Le.of hq
  clear hq
  have S13 := Lib.hid hl.size
  replace V := Lib.hid (V.out.below hl (by have := S1.out; have := S2.out; have := S3.out; have := S4.out; have := S5.out; have := S6.out; have := S7.out; have := S8.out; have := S9.out; have := S10.out; have := S11.out; have := S12.out; omega))
  replace G := Lib.hid (G.out.below hl (by have := S1.out; have := S2.out; have := S3.out; have := S4.out; have := S5.out; have := S6.out; have := S7.out; have := S8.out; have := S9.out; have := S10.out; have := S11.out; have := S12.out; omega))
  replace Z0 := Lib.hid (Z0.out.below hl (by have := S1.out; have := S2.out; have := S3.out; have := S4.out; have := S5.out; have := S6.out; have := S7.out; have := S8.out; have := S9.out; have := S10.out; have := S11.out; have := S12.out; omega))
  replace Q := Lib.hid (Q.out.below hl (by have := S1.out; have := S2.out; have := S3.out; have := S4.out; have := S5.out; have := S6.out; have := S7.out; have := S8.out; have := S9.out; have := S10.out; have := S11.out; have := S12.out; omega))
  replace HG := Lib.hid (HG.out.le hl)
  replace HL := Lib.hid (HL.out.trans hl)
  clear hl
  go_wp2_with fail
  refine (heldbyte_any AG n0 cG _ _ 1 w13 (by omega) (by omega) G.out.toRd).mono ?_
  rintro _ _ ⟨rfl, rfl⟩
  go_wp2
  go_ret
  exact ⟨rfl, HL.out⟩
end Go.Proofs.YtpkgkppehefibaaDoor
