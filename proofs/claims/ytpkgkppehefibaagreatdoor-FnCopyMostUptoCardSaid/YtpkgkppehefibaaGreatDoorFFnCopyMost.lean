/- The law FnCopyMost: its walk. Printed by walks.py. -/
import Derived.Test.YtpkgkppehefibaaGreatDoorWJ
import Derived.Test.YtpkgkppehefibaaGreatDoorH4
import Derived.Test.YtpkgkppehefibaaGreatDoorH8
namespace Go.Proofs.YtpkgkppehefibaaGreatDoor
open Go.RowKit Sa

set_option maxHeartbeats 1000000 in
set_option maxRecDepth 100000 in
theorem fnCopyMost_walk {A0 : Option Addr} {n0 c0 : Nat} {T0 : Nat → Nat} {A1 : Option Addr} {n1 c1 : Nat} {T1 : Nat → Nat} (x2 : Int) (w : World) (h0 : Bs w A0 n0 c0 T0) (h1 : Bs w A1 n1 c1 T1) (h2 : -9223372036854775808 ≤ x2 ∧ x2 ≤ 9223372036854775807) (hg : MaxOk w) (_hsz : n0 + n1 < 1048576) :
    Calls Tryz.prog 6 #[.slice A0 n0 c0, .slice A1 n1 c1, .int .i64 x2] w fun e w' => e = .returned (.bool true) ∧ Le w w' := by
  have hs0 := h0.sm
  have H0 := Lib.hid h0
  clear h0
  have hs1 := h1.sm
  have H1 := Lib.hid h1
  clear h1
  obtain ⟨h2a, h2b⟩ := h2
  have HG := Lib.hid hg
  have HL := Lib.hid (Le.refl w)
  clear hg
  by_cases hx0 : x2 < 0
  · go_enter Tryz.func6, Tryz.ntmps6
    go_wp2
    go_ret
    exact ⟨rfl, HL.out⟩
  · have hx1 : ¬ x2 < 0 := hx0
    have hk2 : ((num T0 n0 T1 n1 x2 : Nat) : Int) ≤ x2 := by unfold num; split <;> omega
    go_enter Tryz.func6, Tryz.ntmps6
    go_wp2_with fail
    refine (copied0 H0.out).mono ?_
    rintro _ w1 ⟨AY0, cY0, rfl, hb, hl⟩
    replace H0 := Lib.hid (H0.out.le hl)
    replace H1 := Lib.hid (H1.out.le hl)
    replace HG := Lib.hid (HG.out.le hl)
    replace HL := Lib.hid (HL.out.trans hl)
    have Y0 := Lib.hid hb
    clear hl hb
    go_wp2_with fail
    refine (copied0 H1.out).mono ?_
    rintro _ w2 ⟨AY1, cY1, rfl, hb, hl⟩
    replace H0 := Lib.hid (H0.out.le hl)
    replace H1 := Lib.hid (H1.out.le hl)
    replace Y0 := Lib.hid (Y0.out.le hl)
    replace HG := Lib.hid (HG.out.le hl)
    replace HL := Lib.hid (HL.out.trans hl)
    have Y1 := Lib.hid hb
    clear hl hb
    go_wp2_with fail
    refine (copylookup0 Y0.out Y1.out HG.out x2 (by omega) (by omega)).mono ?_
    rintro _ w3 ⟨AR1, cR1, rfl, hsa, hb, hl⟩
    replace H0 := Lib.hid (H0.out.le hl)
    replace H1 := Lib.hid (H1.out.le hl)
    replace Y0 := Lib.hid (Y0.out.le hl)
    replace Y1 := Lib.hid (Y1.out.le hl)
    replace HG := Lib.hid (HG.out.le hl)
    replace HL := Lib.hid (HL.out.trans hl)
    have R1 := Lib.hid hb
    clear hl hb
    have HSA := Lib.hid hsa
    clear hsa
    have hk1 : num T0 n0 T1 n1 x2 ≤ n0 := Nat.le_trans num_le occ_le
    generalize hk : num T0 n0 T1 n1 x2 = k at *
    have HKE := Lib.hid hk
    clear hk
    go_wp2_with fail
    go_loopg [24] (k + 1) (fun gk iv wr => (∃ t : Nat, t ≤ k ∧ iv = .int .i64 (t : Int) ∧ Le w3 wr) ∧ k - (intOf iv).toNat < gk)
    case atStart => exact ⟨⟨0, by omega, rfl, Le.refl _⟩, by simp only [intOf]; omega⟩
    case round =>
      obtain ⟨⟨t, ht, rfl, hl⟩, hgk⟩ := hrel
      simp only [intOf, Int.toNat_natCast] at hgk
      replace H0 := Lib.hid (H0.out.le hl)
      replace H1 := Lib.hid (H1.out.le hl)
      replace Y0 := Lib.hid (Y0.out.le hl)
      replace Y1 := Lib.hid (Y1.out.le hl)
      replace R1 := Lib.hid (R1.out.le hl)
      replace HG := Lib.hid (HG.out.le hl)
      replace HL := Lib.hid (HL.out.trans hl)
      have HK1 := Lib.hid hl
      clear hl
      by_cases hlt : t < k
      · have hto : t < occ T0 n0 T1 n1 n0 := by have := HKE.out; have := num_le (T := T0) (S := T1) (n := n0) (m := n1) (N := x2); omega
        obtain ⟨hm0, hst⟩ := hit_stands HSA.out hto
        have hhl := hit_lt HSA.out hto
        have HST := Lib.hid hst
        clear hst hto
        obtain ⟨g, o, rfl, _, _, hg3⟩ := Rd.c R1.out.rd (by omega)
        have hc1 := hg3 t hlt
        simp only [iv] at hc1
        clear hg3
        generalize hit T0 n0 T1 n1 t = p at *
        go_wp2_with fail
        refine (standsAt0 H0.out H1.out p (by omega)).mono ?_
        rintro _ w4 ⟨rfl, hl⟩
        replace H0 := Lib.hid (H0.out.le hl)
        replace H1 := Lib.hid (H1.out.le hl)
        replace Y0 := Lib.hid (Y0.out.le hl)
        replace Y1 := Lib.hid (Y1.out.le hl)
        replace R1 := Lib.hid (R1.out.le hl)
        replace HG := Lib.hid (HG.out.le hl)
        replace HL := Lib.hid (HL.out.trans hl)
        replace HK1 := Lib.hid (HK1.out.trans hl)
        clear hl
        rw [decide_eq_true HST.out]
        go_wp2
        go_roundg (k - (t + 1) + 1)
        case rel => exact ⟨⟨t + 1, by omega, by go_num, HK1.out⟩, by simp only [intOf]; omega⟩
        case measure => omega
      · obtain rfl : t = k := by omega
        go_wp2
        go_ret
        exact ⟨rfl, HL.out⟩
end Go.Proofs.YtpkgkppehefibaaGreatDoor
