/- The law FnPart: its walk. Printed by walks.py. -/
import Derived.Test.YtihegdecaocbgaaDoorL3
namespace Go.Proofs.YtihegdecaocbgaaDoor
open Go.RowKit Sa

set_option maxHeartbeats 1000000 in
set_option maxRecDepth 100000 in
theorem fnPart_walk {A0 : Option Addr} {n0 c0 : Nat} {T0 : Nat → Nat} (x1 : Int) (x2 : Int) (w : World) (h0 : Bs w A0 n0 c0 T0) (h1 : -9223372036854775808 ≤ x1 ∧ x1 ≤ 9223372036854775807) (h2 : -9223372036854775808 ≤ x2 ∧ x2 ≤ 9223372036854775807) (hg : MaxOk w) (_hsz : n0 < 1048576) :
    Calls Tryd.prog 12 #[.slice A0 n0 c0, .int .i64 x1, .int .i64 x2] w fun e w' => e = .returned (.bool true) ∧ Le w w' := by
  have hs0 := h0.sm
  have H0 := Lib.hid h0
  clear h0
  obtain ⟨h1a, h1b⟩ := h1
  obtain ⟨h2a, h2b⟩ := h2
  have HG := Lib.hid hg
  have HL := Lib.hid (Le.refl w)
  clear hg
  by_cases hc : x1 < 0 ∨ (n0 : Int) < x2 ∨ x2 ≤ x1
  · by_cases a1 : x1 < 0
    · go_enter Tryd.func12, Tryd.ntmps12
      go_wp2
      go_ret
      exact ⟨rfl, HL.out⟩
    · by_cases a2 : (n0 : Int) < x2
      · have b1 : decide ((n0 : Int) < x2) = true := decide_eq_true a2
        go_enter Tryd.func12, Tryd.ntmps12
        go_wp2
        go_ret
        exact ⟨rfl, HL.out⟩
      · have a3 : x2 ≤ x1 := by omega
        go_enter Tryd.func12, Tryd.ntmps12
        go_wp2
        go_ret
        exact ⟨rfl, HL.out⟩
  · obtain ⟨f, rfl⟩ : ∃ f : Nat, x1 = (f : Int) := ⟨x1.toNat, by omega⟩
    obtain ⟨z, rfl⟩ : ∃ z : Nat, x2 = (z : Int) := ⟨x2.toNat, by omega⟩
    have a1 : ¬ ((f : Int) < 0) := by omega
    have a2 : ¬ ((n0 : Int) < (z : Int)) := by omega
    have a3 : ¬ ((z : Int) ≤ (f : Int)) := by omega
    have hnc := H0.out.nc
    have a4 : ¬ c0 = f := by omega
    have a5 : (f : Int) ≤ (z : Int) := by omega
    have a6 : (z : Int) ≤ (c0 : Int) := by omega
    obtain ⟨g, o, rfl, _, _, _⟩ := Rd.c H0.out.rd (by omega)
    have P1 := Lib.hid (H0.out.part (i := f) (j := z) (by omega) (by omega))
    go_enter Tryd.func12, Tryd.ntmps12
    go_wp2_with fail
    refine (marks0 H0.out P1.out HG.out).mono ?_
    rintro _ w1 ⟨AM1, rfl, hb, hl⟩
    replace H0 := Lib.hid (H0.out.le hl)
    replace P1 := Lib.hid (P1.out.le hl)
    replace HG := Lib.hid (HG.out.le hl)
    replace HL := Lib.hid (HL.out.trans hl)
    have M1 := Lib.hid hb
    clear hl hb
    go_wp2_with fail
    refine (qMark0 M1.out (f : Int) (by omega) (by omega)).mono ?_
    rintro _ w2 ⟨rfl, hl⟩
    replace H0 := Lib.hid (H0.out.le hl)
    replace P1 := Lib.hid (P1.out.le hl)
    replace M1 := Lib.hid (M1.out.le hl)
    replace HG := Lib.hid (HG.out.le hl)
    replace HL := Lib.hid (HL.out.trans hl)
    clear hl
    rw [qm_mrk', mrk_part (by omega) (by omega)]
    go_wp2
    go_ret
    exact ⟨rfl, HL.out⟩
end Go.Proofs.YtihegdecaocbgaaDoor
