/- The law FnLookupAll: its walk. Printed by walks.py. -/
import Derived.Test.YtncoihekfmponaaDoorH1
namespace Go.Proofs.YtncoihekfmponaaDoor
open Go.RowKit Sa

set_option maxHeartbeats 1000000 in
set_option maxRecDepth 100000 in
theorem fnLookupAll_walk {A0 : Option Addr} {n0 c0 : Nat} {T0 : Nat → Nat} {A1 : Option Addr} {n1 c1 : Nat} {T1 : Nat → Nat} (x2 : Int) (w : World) (h0 : Bs w A0 n0 c0 T0) (h1 : Bs w A1 n1 c1 T1) (h2 : -9223372036854775808 ≤ x2 ∧ x2 ≤ 9223372036854775807) (hg : MaxOk w) (_hsz : n0 + n1 < 1048576) :
    Calls Tryd.prog 7 #[.slice A0 n0 c0, .slice A1 n1 c1, .int .i64 x2] w fun e w' => e = .returned (.bool true) ∧ Le w w' := by
  have hs0 := h0.sm
  have H0 := Lib.hid h0
  clear h0
  have hs1 := h1.sm
  have H1 := Lib.hid h1
  clear h1
  obtain ⟨h2a, h2b⟩ := h2
  have HG := Lib.hid hg
  have HL := Lib.hid (Le.refl w)
  clear hg
  by_cases hx0 : 0 ≤ x2
  · go_enter Tryd.func7, Tryd.ntmps7
    go_wp2
    go_ret
    exact ⟨rfl, HL.out⟩
  · have hx1 : ¬ (0 : Int) ≤ x2 := hx0
    go_enter Tryd.func7, Tryd.ntmps7
    go_wp2_with fail
    refine (lookup0 H0.out H1.out HG.out x2 (by omega) (by omega)).mono ?_
    rintro _ w1 ⟨AR1, cR1, rfl, hsa, hb, hl⟩
    replace H0 := Lib.hid (H0.out.le hl)
    replace H1 := Lib.hid (H1.out.le hl)
    replace HG := Lib.hid (HG.out.le hl)
    replace HL := Lib.hid (HL.out.trans hl)
    have R1 := Lib.hid hb
    clear hl hb
    have HSA := Lib.hid hsa
    clear hsa
    have hk1 : num T0 n0 T1 n1 x2 ≤ n0 := Nat.le_trans num_le occ_le
    rw [num_neg (by omega)] at *
    have hoc : occ T0 n0 T1 n1 n0 ≤ n0 := occ_le
    clear hk1
    go_wp2_with fail
    go_loopg [17] (n0 + 1) (fun gk iv wr => (∃ t : Nat, t ≤ n0 ∧ iv = .int .i64 (t : Int) ∧ Le w1 wr) ∧ n0 - (intOf iv).toNat < gk)
    case atStart => exact ⟨⟨0, by omega, rfl, Le.refl _⟩, by simp only [intOf]; omega⟩
    case round =>
      obtain ⟨⟨t, ht, rfl, hl⟩, hgk⟩ := hrel
      simp only [intOf, Int.toNat_natCast] at hgk
      replace H0 := Lib.hid (H0.out.le hl)
      replace H1 := Lib.hid (H1.out.le hl)
      replace R1 := Lib.hid (R1.out.le hl)
      replace HG := Lib.hid (HG.out.le hl)
      replace HL := Lib.hid (HL.out.trans hl)
      have HK1 := Lib.hid hl
      clear hl
      by_cases hlt : t < n0
      · by_cases hm : 0 < n1
        · have hm1 : (0 : Int) < (n1 : Int) := by omega
          go_wp2_with fail
          refine (qStands0 H0.out H1.out t (by omega)).mono ?_
          rintro _ w2 ⟨rfl, hl⟩
          replace H0 := Lib.hid (H0.out.le hl)
          replace H1 := Lib.hid (H1.out.le hl)
          replace R1 := Lib.hid (R1.out.le hl)
          replace HG := Lib.hid (HG.out.le hl)
          replace HL := Lib.hid (HL.out.trans hl)
          replace HK1 := Lib.hid (HK1.out.trans hl)
          clear hl
          by_cases hst : stands T0 n0 T1 n1 t
          · rw [decide_eq_true hst]
            have hex := hit_onto HSA.out hm hst
            have HE : Hid (∃ i, i < occ T0 n0 T1 n1 n0 ∧ ((hit T0 n0 T1 n1 i : Nat) : Int) = (t : Int)) := Lib.hid (by obtain ⟨i, h1, h2⟩ := hex; exact ⟨i, h1, by rw [h2]⟩)
            clear hex hst
            go_wp2_with fail
            refine (qHas0 R1.out (t : Int)).mono ?_
            rintro _ w3 ⟨rfl, hl⟩
            replace H0 := Lib.hid (H0.out.le hl)
            replace H1 := Lib.hid (H1.out.le hl)
            replace R1 := Lib.hid (R1.out.le hl)
            replace HG := Lib.hid (HG.out.le hl)
            replace HL := Lib.hid (HL.out.trans hl)
            replace HK1 := Lib.hid (HK1.out.trans hl)
            clear hl
            rw [decide_eq_true HE.out]
            go_wp2
            go_roundg (n0 - (t + 1) + 1)
            case rel => exact ⟨⟨t + 1, by omega, by go_num, HK1.out⟩, by simp only [intOf]; omega⟩
            case measure => omega
          · rw [decide_eq_false hst]
            clear hst
            go_wp2
            go_roundg (n0 - (t + 1) + 1)
            case rel => exact ⟨⟨t + 1, by omega, by go_num, HK1.out⟩, by simp only [intOf]; omega⟩
            case measure => omega
        · have hm1 : ¬ (0 : Int) < (n1 : Int) := by omega
          go_wp2
          go_roundg (n0 - (t + 1) + 1)
          case rel => exact ⟨⟨t + 1, by omega, by go_num, HK1.out⟩, by simp only [intOf]; omega⟩
          case measure => omega
      · obtain rfl : t = n0 := by omega
        go_wp2
        go_ret
        exact ⟨by simp, HL.out⟩
end Go.Proofs.YtncoihekfmponaaDoor
