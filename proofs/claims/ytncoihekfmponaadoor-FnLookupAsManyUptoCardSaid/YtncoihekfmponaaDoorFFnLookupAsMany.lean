/- The law FnLookupAsMany: its walk. Printed by walks.py. -/
import Derived.Test.YtncoihekfmponaaDoorH1
namespace Go.Proofs.YtncoihekfmponaaDoor
open Go.RowKit Sa

set_option maxHeartbeats 1000000 in
set_option maxRecDepth 100000 in
theorem fnLookupAsMany_walk {A0 : Option Addr} {n0 c0 : Nat} {T0 : Nat → Nat} {A1 : Option Addr} {n1 c1 : Nat} {T1 : Nat → Nat} (x2 : Int) (w : World) (h0 : Bs w A0 n0 c0 T0) (h1 : Bs w A1 n1 c1 T1) (h2 : -9223372036854775808 ≤ x2 ∧ x2 ≤ 9223372036854775807) (hg : MaxOk w) (_hsz : n0 + n1 < 1048576) :
    Calls Tryd.prog 8 #[.slice A0 n0 c0, .slice A1 n1 c1, .int .i64 x2] w fun e w' => e = .returned (.bool true) ∧ Le w w' := by
  have hs0 := h0.sm
  have H0 := Lib.hid h0
  clear h0
  have hs1 := h1.sm
  have H1 := Lib.hid h1
  clear h1
  obtain ⟨h2a, h2b⟩ := h2
  have HG := Lib.hid hg
  have HL := Lib.hid (Le.refl w)
  clear hg
  have hoc : occ T0 n0 T1 n1 n0 ≤ n0 := occ_le
  by_cases hx0 : x2 < 0
  · go_enter Tryd.func8, Tryd.ntmps8
    go_wp2
    go_ret
    exact ⟨rfl, HL.out⟩
  · obtain ⟨N, rfl⟩ : ∃ N : Nat, x2 = (N : Int) := ⟨x2.toNat, by omega⟩
    go_enter Tryd.func8, Tryd.ntmps8
    go_wp2_with fail
    refine (occurrences0 H0.out H1.out).mono ?_
    rintro _ w1 ⟨A2, c2, rfl, hl⟩
    replace H0 := Lib.hid (H0.out.le hl)
    replace H1 := Lib.hid (H1.out.le hl)
    replace HG := Lib.hid (HG.out.le hl)
    replace HL := Lib.hid (HL.out.trans hl)
    clear hl
    by_cases hN : N < occ T0 n0 T1 n1 n0
    · have hN1 : (N : Int) < ((occ T0 n0 T1 n1 n0 : Nat) : Int) := by omega
      have hnum : num T0 n0 T1 n1 (N : Int) = N := by unfold num; rw [if_neg (by omega)]; omega
      have HN := Lib.hid hnum
      clear hnum
      go_wp2_with fail
      refine (lookup0 H0.out H1.out HG.out (N : Int) (by omega) (by omega)).mono ?_
      rintro _ w2 ⟨AR1, cR1, rfl, hsa, hb, hl⟩
      replace H0 := Lib.hid (H0.out.le hl)
      replace H1 := Lib.hid (H1.out.le hl)
      replace HG := Lib.hid (HG.out.le hl)
      replace HL := Lib.hid (HL.out.trans hl)
      have R1 := Lib.hid hb
      clear hl hb
      have HSA := Lib.hid hsa
      clear hsa
      rw [HN.out] at *
      go_wp2
      go_ret
      exact ⟨rfl, HL.out⟩
    · have hN1 : ¬ (N : Int) < ((occ T0 n0 T1 n1 n0 : Nat) : Int) := by omega
      have hnum : num T0 n0 T1 n1 (N : Int) = occ T0 n0 T1 n1 n0 := by unfold num; split <;> omega
      have HN := Lib.hid hnum
      clear hnum
      go_wp2_with fail
      refine (lookup0 H0.out H1.out HG.out (N : Int) (by omega) (by omega)).mono ?_
      rintro _ w2 ⟨AR1, cR1, rfl, hsa, hb, hl⟩
      replace H0 := Lib.hid (H0.out.le hl)
      replace H1 := Lib.hid (H1.out.le hl)
      replace HG := Lib.hid (HG.out.le hl)
      replace HL := Lib.hid (HL.out.trans hl)
      have R1 := Lib.hid hb
      clear hl hb
      have HSA := Lib.hid hsa
      clear hsa
      rw [HN.out] at *
      go_wp2
      go_ret
      exact ⟨rfl, HL.out⟩
end Go.Proofs.YtncoihekfmponaaDoor
