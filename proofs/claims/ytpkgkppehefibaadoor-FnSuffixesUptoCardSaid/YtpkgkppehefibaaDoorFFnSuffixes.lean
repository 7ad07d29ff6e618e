/- The law FnSuffixes: its walk. Printed by walks.py. -/
import Derived.Test.YtpkgkppehefibaaDoorH6
namespace Go.Proofs.YtpkgkppehefibaaDoor
open Go.RowKit Sa

set_option maxHeartbeats 1000000 in
set_option maxRecDepth 100000 in
theorem fnSuffixes_walk {A0 : Option Addr} {n0 c0 : Nat} {T0 : Nat → Nat} (w : World) (h0 : Bs w A0 n0 c0 T0) (hg : MaxOk w) (_hsz : n0 < 1048576) :
    Calls Tryd.prog 4 #[.slice A0 n0 c0] w fun e w' => e = .returned (.bool true) ∧ Le w w' := by
  have hs0 := h0.sm
  have H0 := Lib.hid h0
  clear h0
  have HG := Lib.hid hg
  have HL := Lib.hid (Le.refl w)
  clear hg
  have hnc := H0.out.nc
  go_enter Tryd.func4, Tryd.ntmps4
  have OB := H0
  go_wp2_with fail
  go_loopg [3, 12] (n0 + 1) (fun gk ov iv wr => (∃ (t : Nat) (B' : Nat → Option Addr) (e' : Nat → Nat), t ≤ n0 ∧ iv = .int .i64 (t : Int) ∧ Rows1 wr 0 w.heap.size 22 ov t B' (fun j => n0 - j) e' (fun j => bv ((fun j i => T0 (j + i)) j)) ∧ Le w wr) ∧ n0 - (intOf iv).toNat < gk)
  case atStart => exact ⟨⟨0, fun _ => none, fun _ => 0, by omega, rfl, Rows1.nil, Le.refl _⟩, by simp [intOf]⟩
  case round =>
    obtain ⟨⟨t, B', e', ht, rfl, hrow, hl⟩, hgk⟩ := hrel
    simp only [intOf, Int.toNat_natCast] at hgk
    obtain ⟨w1, hwr⟩ : ∃ x, x = wr := ⟨_, rfl⟩
    subst hwr
    have HB0 := Lib.hid hl
    replace H0 := Lib.hid (H0.out.le hl)
    replace HG := Lib.hid (HG.out.le hl)
    replace HL := Lib.hid (HL.out.trans hl)
    have HR := Lib.hid hrow
    clear hrow hl
    by_cases hlt : t < n0
    · obtain ⟨ga, oa, rfl, _, _, _⟩ := Rd.c H0.out.rd (by omega)
      have hA := (H0.out.part (i := t) (j := n0) (by omega) (by omega)).rd
      have hF : FarR u3 (some ⟨ga, oa + t, none⟩) (n0 - t) := FarR.old HR.out.own (OB.out.part (i := t) (j := n0) (by omega) (by omega)).rd
      obtain ⟨v5, w5, hr, ho5, hb5, hk5⟩ := addSB w1 w.heap.size u3 t _ HR.out.own (by omega) HB0.out.size (some ⟨ga, oa + t, none⟩) (n0 - t) (c0 - t)
      have HRUN := Lib.hid hr
      have HR5 := Lib.hid (HR.out.snoc ho5 hk5 hA hF rfl (by omega))
      have HB5 : Hid (Le w w5) := Lib.hid (Below.trans HB0.out hb5)
      clear hr ho5 hb5 hk5 hA hF
      have e1 : (t : Int) ≤ (n0 : Int) := by omega
      have e2 : ¬ c0 = t := by omega
      have e3 : (n0 : Int) ≤ (c0 : Int) := by omega
      go_wp2_with (at_builtin; refine wpList_append_run rfl rfl rfl rfl HRUN.out ?_)
      go_roundg (n0 - (t + 1) + 1)
      case rel => exact ⟨⟨t + 1, _, _, by omega, by go_num, HR5.out, HB5.out⟩, by simp only [intOf]; omega⟩
      case measure => omega
    · obtain rfl : n0 = t := by omega
      obtain ⟨AL, cL, he, hb⟩ := HR.out.bss (fun j hj i hi => OB.out.lt (j + i) (by omega)) (fun j hj => by omega) (by omega)
      subst he
      have LST := Lib.hid hb
      clear hb HR HB0
      go_wp2_with fail
      refine (many0 H0.out LST.out (by omega) HG.out (-1) (by omega) (by omega)).mono ?_
      rintro _ w2 ⟨AMM, cMM, BMM, eMM, rfl, hsa, hb, hl⟩
      replace H0 := Lib.hid (H0.out.le hl)
      replace LST := Lib.hid (LST.out.le hl)
      replace HG := Lib.hid (HG.out.le hl)
      replace HL := Lib.hid (HL.out.trans hl)
      have MM := Lib.hid hb
      clear hl hb
      have HSA := Lib.hid hsa
      clear hsa
      simp only [num_neg (show (-1 : Int) < 0 by omega)] at MM
      go_wp2_with fail
      go_loopg [27] (n0 + 1) (fun gk iv wr => (∃ t : Nat, t ≤ n0 ∧ iv = .int .i64 (t : Int) ∧ Le w2 wr) ∧ n0 - (intOf iv).toNat < gk)
      case atStart => exact ⟨⟨0, by omega, rfl, Le.refl _⟩, by simp only [intOf]; omega⟩
      case round =>
        obtain ⟨⟨t, ht, rfl, hl⟩, hgk⟩ := hrel
        simp only [intOf, Int.toNat_natCast] at hgk
        obtain ⟨w3, hwr⟩ : ∃ x, x = wr := ⟨_, rfl⟩
        subst hwr
        replace H0 := Lib.hid (H0.out.le hl)
        replace LST := Lib.hid (LST.out.le hl)
        replace MM := Lib.hid (MM.out.le hl)
        replace HG := Lib.hid (HG.out.le hl)
        replace HL := Lib.hid (HL.out.trans hl)
        have HK1 := Lib.hid hl
        clear hl
        by_cases hlt : t < n0
        · obtain ⟨j, hj, e⟩ := hit_onto HSA.out (S := fun i => T0 (t + i)) (m := n0 - t) (p := t) (by omega) ⟨by omega, fun i _ => rfl⟩
          have HE : Hid (∃ i, i < occ T0 n0 (fun i => T0 (t + i)) (n0 - t) n0 ∧ ((hit T0 n0 (fun i => T0 (t + i)) (n0 - t) i : Nat) : Int) = (t : Int)) := Lib.hid ⟨j, hj, by rw [e]⟩
          clear hj e
          have IT := Lib.hid (MM.out.is hlt)
          have hol : occ T0 n0 (fun i => T0 (t + i)) (n0 - t) n0 ≤ n0 := occ_le
          obtain ⟨g, o, rfl, _, _, hg3⟩ := Rd.c MM.out.rd (by omega)
          have hc1 := hg3 t hlt
          clear hg3
          go_wp2_with fail
          refine (qHas0 IT.out (t : Int)).mono ?_
          rintro _ w4 ⟨rfl, hl⟩
          replace H0 := Lib.hid (H0.out.le hl)
          replace LST := Lib.hid (LST.out.le hl)
          replace MM := Lib.hid (MM.out.le hl)
          replace IT := Lib.hid (IT.out.le hl)
          replace HG := Lib.hid (HG.out.le hl)
          replace HL := Lib.hid (HL.out.trans hl)
          replace HK1 := Lib.hid (HK1.out.trans hl)
          clear hl
          rw [decide_eq_true HE.out]
          clear hc1
          generalize hq : occ T0 n0 (fun i => T0 (t + i)) (n0 - t) n0 = q at *
          have HQ := Lib.hid hq
          clear hq
          go_wp2_with fail
          go_loopg [38] (q + 1) (fun gk iv wr => (∃ u : Nat, u ≤ q ∧ iv = .int .i64 (u : Int) ∧ Le w4 wr) ∧ q - (intOf iv).toNat < gk)
          case atStart => exact ⟨⟨0, by omega, rfl, Le.refl _⟩, by simp only [intOf]; omega⟩
          case round =>
            obtain ⟨⟨u, hu, rfl, hl⟩, hgku⟩ := hrel
            simp only [intOf, Int.toNat_natCast] at hgku
            obtain ⟨w5, hwr⟩ : ∃ x, x = wr := ⟨_, rfl⟩
            subst hwr
            replace H0 := Lib.hid (H0.out.le hl)
            replace LST := Lib.hid (LST.out.le hl)
            replace MM := Lib.hid (MM.out.le hl)
            replace IT := Lib.hid (IT.out.le hl)
            replace HG := Lib.hid (HG.out.le hl)
            replace HL := Lib.hid (HL.out.trans hl)
            replace HK1 := Lib.hid (HK1.out.trans hl)
            have HK2 := Lib.hid hl
            clear hl
            by_cases hltu : u < q
            · have hle : hit T0 n0 (fun i => T0 (t + i)) (n0 - t) u ≤ t := by have := (hit_stands HSA.out (S := fun i => T0 (t + i)) (m := n0 - t) (j := u) (by rw [HQ.out]; exact hltu)).2.1; omega
              obtain ⟨g2, o2, he2, _, _, hg4⟩ := Rd.c IT.out.rd (by omega)
              have hc2 := hg4 u hltu
              simp only [iv] at hc2
              clear hg4
              rw [he2]
              have HE2 := Lib.hid he2
              clear he2
              generalize hit T0 n0 (fun i => T0 (t + i)) (n0 - t) u = p at *
              have hle2 : ¬ ((t : Int) < (p : Int)) := by omega
              go_wp2
              rw [← HE2.out]
              go_roundg (q - (u + 1) + 1)
              case rel => exact ⟨⟨u + 1, by omega, by go_num, HK2.out⟩, by simp only [intOf]; omega⟩
              case measure => omega
            · obtain rfl : q = u := by omega
              go_wp2
              go_roundg (n0 - (t + 1) + 1)
              case rel => exact ⟨⟨t + 1, by omega, by go_num, HK1.out⟩, by simp only [intOf]; omega⟩
              case measure => omega
        · obtain rfl : n0 = t := by omega
          go_wp2
          go_ret
          exact ⟨rfl, HL.out⟩
end Go.Proofs.YtpkgkppehefibaaDoor
