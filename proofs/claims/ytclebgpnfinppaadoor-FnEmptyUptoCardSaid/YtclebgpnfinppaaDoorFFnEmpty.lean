/- The law FnEmpty: its walk. Printed by walks.py. -/
import Derived.Test.YtclebgpnfinppaaDoorH6
namespace Go.Proofs.YtclebgpnfinppaaDoor
open Go.RowKit Sa

set_option maxHeartbeats 1000000 in
set_option maxRecDepth 100000 in
theorem fnEmpty_walk {A0 : Option Addr} {n0 c0 : Nat} {T0 : Nat → Nat} {A1 : Option Addr} {n1 c1 : Nat} {T1 : Nat → Nat} (x2 : Int) (w : World) (h0 : Bs w A0 n0 c0 T0) (h1 : Bs w A1 n1 c1 T1) (h2 : -9223372036854775808 ≤ x2 ∧ x2 ≤ 9223372036854775807) (hg : MaxOk w) (_hsz : n0 + n1 < 1048576) :
    Calls Tryd.prog 7 #[.slice A0 n0 c0, .slice A1 n1 c1, .int .i64 x2] w fun e w' => e = .returned (.bool true) ∧ Le w w' := by
  have hs0 := h0.sm
  have H0 := Lib.hid h0
  clear h0
  have hs1 := h1.sm
  have H1 := Lib.hid h1
  clear h1
  obtain ⟨h2a, h2b⟩ := h2
  have HG := Lib.hid hg
  have HL := Lib.hid (Le.refl w)
  clear hg
  go_enter Tryd.func7, Tryd.ntmps7
  go_wp2_with fail
  refine (lookup0 H0.out (Bs.zero (A := none) (c := 0)) HG.out x2 (by omega) (by omega)).mono ?_
  rintro _ w1 ⟨A2, c2, rfl, _, _, hl⟩
  replace H0 := Lib.hid (H0.out.le hl)
  replace H1 := Lib.hid (H1.out.le hl)
  replace HG := Lib.hid (HG.out.le hl)
  replace HL := Lib.hid (HL.out.trans hl)
  clear hl
  rw [num_m0]
  go_wp2_with fail
  refine (lookup0 (Bs.zero (A := none) (c := 0)) H1.out HG.out x2 (by omega) (by omega)).mono ?_
  rintro _ w2 ⟨A3, c3, rfl, _, _, hl⟩
  replace H0 := Lib.hid (H0.out.le hl)
  replace H1 := Lib.hid (H1.out.le hl)
  replace HG := Lib.hid (HG.out.le hl)
  replace HL := Lib.hid (HL.out.trans hl)
  clear hl
  rw [num_n0]
  obtain ⟨w3, hw3⟩ : ∃ w3, w3 = w2.alloc (.cells #[] 5) := ⟨_, rfl⟩
  have hl : Le w2 w3 := by rw [hw3]; exact (Below.refl _ _).alloc (Nat.le_refl _) _
  replace H0 := Lib.hid (H0.out.le hl)
  replace H1 := Lib.hid (H1.out.le hl)
  replace HG := Lib.hid (HG.out.le hl)
  replace HL := Lib.hid (HL.out.trans hl)
  have HW3 := Lib.hid hw3
  clear hl hw3
  go_wp2_with fail
  rw [← HW3.out]
  refine (nil0 H0.out Bs.zero HG.out x2 (by omega) (by omega)).mono ?_
  rintro _ w4 ⟨rfl, hl⟩
  replace H0 := Lib.hid (H0.out.le hl)
  replace H1 := Lib.hid (H1.out.le hl)
  replace HG := Lib.hid (HG.out.le hl)
  replace HL := Lib.hid (HL.out.trans hl)
  clear hl
  rw [decide_eq_true num_m0]
  go_wp2_with fail
  refine (nil0 (Bs.zero (A := none) (c := 0)) H1.out HG.out x2 (by omega) (by omega)).mono ?_
  rintro _ w5 ⟨rfl, hl⟩
  replace H0 := Lib.hid (H0.out.le hl)
  replace H1 := Lib.hid (H1.out.le hl)
  replace HG := Lib.hid (HG.out.le hl)
  replace HL := Lib.hid (HL.out.trans hl)
  clear hl
  rw [decide_eq_true num_n0]
  go_wp2
  go_ret
  exact ⟨rfl, HL.out⟩
end Go.Proofs.YtclebgpnfinppaaDoor
