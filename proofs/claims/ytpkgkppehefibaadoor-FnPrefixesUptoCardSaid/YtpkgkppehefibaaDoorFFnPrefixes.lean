/- The law FnPrefixes: its walk. Printed by walks.py. -/
import Derived.Test.YtpkgkppehefibaaDoorH6
namespace Go.Proofs.YtpkgkppehefibaaDoor
open Go.RowKit Sa

set_option maxHeartbeats 1000000 in
set_option maxRecDepth 100000 in
theorem fnPrefixes_walk {A0 : Option Addr} {n0 c0 : Nat} {T0 : Nat → Nat} (w : World) (h0 : Bs w A0 n0 c0 T0) (hg : MaxOk w) (_hsz : n0 < 1048576) :
    Calls Tryd.prog 3 #[.slice A0 n0 c0] w fun e w' => e = .returned (.bool true) ∧ Le w w' := by
  have hs0 := h0.sm
  have H0 := Lib.hid h0
  clear h0
  have HG := Lib.hid hg
  have HL := Lib.hid (Le.refl w)
  clear hg
  have hnc := H0.out.nc
  go_enter Tryd.func3, Tryd.ntmps3
  have OB := H0
  go_wp2_with fail
  go_loopg [3, 10] (n0 + 1) (fun gk ov iv wr => (∃ (t : Nat) (B' : Nat → Option Addr) (e' : Nat → Nat), t ≤ n0 ∧ iv = .int .i64 (t : Int) ∧ Rows1 wr 0 w.heap.size 22 ov t B' (fun j => j + 1) e' (fun j => bv ((fun _ => T0) j)) ∧ Le w wr) ∧ n0 - (intOf iv).toNat < gk)
  case atStart => exact ⟨⟨0, fun _ => none, fun _ => 0, by omega, rfl, Rows1.nil, Le.refl _⟩, by simp [intOf]⟩
  case round =>
    obtain ⟨⟨t, B', e', ht, rfl, hrow, hl⟩, hgk⟩ := hrel
    simp only [intOf, Int.toNat_natCast] at hgk
    obtain ⟨w1, hwr⟩ : ∃ x, x = wr := ⟨_, rfl⟩
    subst hwr
    have HB0 := Lib.hid hl
    replace H0 := Lib.hid (H0.out.le hl)
    replace HG := Lib.hid (HG.out.le hl)
    replace HL := Lib.hid (HL.out.trans hl)
    have HR := Lib.hid hrow
    clear hrow hl
    by_cases hlt : t < n0
    · have hA := (H0.out.pre (k := t + 1) (by omega)).rd
      have hF : FarR u3 A0 (t + 1) := FarR.old HR.out.own (OB.out.pre (k := t + 1) (by omega)).rd
      obtain ⟨v5, w5, hr, ho5, hb5, hk5⟩ := addSB w1 w.heap.size u3 t _ HR.out.own (by omega) HB0.out.size A0 (t + 1) c0
      have HRUN := Lib.hid hr
      have HR5 := Lib.hid (HR.out.snoc ho5 hk5 hA hF rfl (by omega))
      have HB5 : Hid (Le w w5) := Lib.hid (Below.trans HB0.out hb5)
      clear hr ho5 hb5 hk5 hA hF
      have e1 : (t : Int) + 1 ≤ (c0 : Int) := by omega
      have e2 : (0 : Int) ≤ (t : Int) + 1 := by omega
      go_wp2_with (at_builtin; refine wpList_append_run rfl rfl rfl rfl HRUN.out ?_)
      go_roundg (n0 - (t + 1) + 1)
      case rel => exact ⟨⟨t + 1, _, _, by omega, by go_num, HR5.out, HB5.out⟩, by simp only [intOf]; omega⟩
      case measure => omega
    · obtain rfl : n0 = t := by omega
      obtain ⟨AL, cL, he, hb⟩ := HR.out.bss (fun j hj i hi => OB.out.lt i (by omega)) (fun j hj => by omega) (by omega)
      subst he
      have LST := Lib.hid hb
      clear hb HR HB0
      go_wp2_with fail
      refine (many0 H0.out LST.out (by omega) HG.out (-1) (by omega) (by omega)).mono ?_
      rintro _ w2 ⟨AMM, cMM, BMM, eMM, rfl, hsa, hb, hl⟩
      replace H0 := Lib.hid (H0.out.le hl)
      replace LST := Lib.hid (LST.out.le hl)
      replace HG := Lib.hid (HG.out.le hl)
      replace HL := Lib.hid (HL.out.trans hl)
      have MM := Lib.hid hb
      clear hl hb
      have HSA := Lib.hid hsa
      clear hsa
      simp only [num_neg (show (-1 : Int) < 0 by omega)] at MM
      go_wp2_with fail
      go_loopg [26] (n0 + 1) (fun gk iv wr => (∃ t : Nat, t ≤ n0 ∧ iv = .int .i64 (t : Int) ∧ Le w2 wr) ∧ n0 - (intOf iv).toNat < gk)
      case atStart => exact ⟨⟨0, by omega, rfl, Le.refl _⟩, by simp only [intOf]; omega⟩
      case round =>
        obtain ⟨⟨t, ht, rfl, hl⟩, hgk⟩ := hrel
        simp only [intOf, Int.toNat_natCast] at hgk
        obtain ⟨w3, hwr⟩ : ∃ x, x = wr := ⟨_, rfl⟩
        subst hwr
        replace H0 := Lib.hid (H0.out.le hl)
        replace LST := Lib.hid (LST.out.le hl)
        replace MM := Lib.hid (MM.out.le hl)
        replace HG := Lib.hid (HG.out.le hl)
        replace HL := Lib.hid (HL.out.trans hl)
        have HK1 := Lib.hid hl
        clear hl
        by_cases hlt : t < n0
        · obtain ⟨j, hj, e⟩ := hit_onto HSA.out (S := T0) (m := t + 1) (p := 0) (by omega) ⟨by omega, fun i _ => by rw [Nat.zero_add]⟩
          have HE : Hid (∃ i, i < occ T0 n0 T0 (t + 1) n0 ∧ ((hit T0 n0 T0 (t + 1) i : Nat) : Int) = 0) := Lib.hid ⟨j, hj, by rw [e]; rfl⟩
          clear hj e
          have IT := Lib.hid (MM.out.is hlt)
          obtain ⟨g, o, rfl, _, _, hg3⟩ := Rd.c MM.out.rd (by omega)
          have hc1 := hg3 t hlt
          clear hg3
          go_wp2_with fail
          refine (qHas0 IT.out 0).mono ?_
          rintro _ w4 ⟨rfl, hl⟩
          replace H0 := Lib.hid (H0.out.le hl)
          replace LST := Lib.hid (LST.out.le hl)
          replace MM := Lib.hid (MM.out.le hl)
          replace IT := Lib.hid (IT.out.le hl)
          replace HG := Lib.hid (HG.out.le hl)
          replace HL := Lib.hid (HL.out.trans hl)
          replace HK1 := Lib.hid (HK1.out.trans hl)
          clear hl
          rw [decide_eq_true HE.out]
          go_wp2
          go_roundg (n0 - (t + 1) + 1)
          case rel => exact ⟨⟨t + 1, by omega, by go_num, HK1.out⟩, by simp only [intOf]; omega⟩
          case measure => omega
        · obtain rfl : n0 = t := by omega
          go_wp2
          go_ret
          exact ⟨rfl, HL.out⟩
end Go.Proofs.YtpkgkppehefibaaDoor
