/- The law FnManySame: its walk. Printed by walks.py. -/
import Derived.Test.YtclebgpnfinppaaDoorH6
import Derived.Deep.RegionHeld3
namespace Go.Proofs.YtclebgpnfinppaaDoor
open Go.RowKit Sa

theorem fnManySame_drew1 (w : World) : Le w w.drew := ⟨rfl, rfl, rfl, Nat.le_refl _, fun _ _ => rfl⟩
theorem fnManySame_cell {w w' : World} (h : Le w w') {b o : Nat} {v : Value} (hc : w.cell? ⟨b, o, none⟩ = some v) : w'.cell? ⟨b, o, none⟩ = some v := by
  rw [h.cell (p := ⟨b, o, none⟩) (cell_lt hc)]; exact hc

set_option maxHeartbeats 4000000 in
set_option maxRecDepth 100000 in
theorem fnManySame_walk {A0 : Option Addr} {n0 c0 : Nat} {T0 : Nat → Nat} {A1 : Option Addr} {n1 c1 : Nat} {B1 : Nat → Option Addr} {m1 e1 : Nat → Nat} {S1 : Nat → Nat → Nat} (x2 : Int) (w : World) (h0 : Bs w A0 n0 c0 T0) (h1 : Bss w A1 n1 c1 B1 m1 e1 S1) (h2 : -9223372036854775808 ≤ x2 ∧ x2 ≤ 9223372036854775807) (hg : MaxOk w) (_hsz : n0 + n1 < 1048576) :
    Calls Tryd.prog 12 #[.slice A0 n0 c0, .slice A1 n1 c1, .int .i64 x2] w fun e w' => e = .returned (.bool true) ∧ Le w w' := by
  have hs0 := h0.sm
  have H0 := Lib.hid h0
  clear h0
  have hs1 := h1.sm
  have H1 := Lib.hid h1
  clear h1
  obtain ⟨h2a, h2b⟩ := h2
  have HG := Lib.hid hg
  have HL := Lib.hid (Le.refl w)
  clear hg
  go_enter Tryd.func12, Tryd.ntmps12
  go_wp2_with fail
  refine (copied0 H0.out).mono ?_
  rintro _ w1 ⟨AY0, cY0, rfl, hb, hl⟩
  replace H0 := Lib.hid (H0.out.le hl)
  replace H1 := Lib.hid (H1.out.le hl)
  replace HG := Lib.hid (HG.out.le hl)
  replace HL := Lib.hid (HL.out.trans hl)
  have Y0 := Lib.hid hb
  clear hl hb
  go_wp2_with fail
  refine (copies0 H1.out (by omega)).mono ?_
  rintro _ w2 ⟨AL, cL, BL, eL, rfl, hb, hl⟩
  replace H0 := Lib.hid (H0.out.le hl)
  replace H1 := Lib.hid (H1.out.le hl)
  replace Y0 := Lib.hid (Y0.out.le hl)
  replace HG := Lib.hid (HG.out.le hl)
  replace HL := Lib.hid (HL.out.trans hl)
  have LST := Lib.hid hb
  clear hl hb
  go_wp2_with fail
  refine (many0 Y0.out LST.out (by omega) HG.out x2 (by omega) (by omega)).mono ?_
  rintro _ w3 ⟨AMM, cMM, BMM, eMM, rfl, hsa, hb, hl⟩
  replace H0 := Lib.hid (H0.out.le hl)
  replace H1 := Lib.hid (H1.out.le hl)
  replace Y0 := Lib.hid (Y0.out.le hl)
  replace LST := Lib.hid (LST.out.le hl)
  replace HG := Lib.hid (HG.out.le hl)
  replace HL := Lib.hid (HL.out.trans hl)
  have MM := Lib.hid hb
  clear hl hb
  have HSA := Lib.hid hsa
  clear hsa
  have hne : ((n1 : Int) != (n1 : Int)) = false := by simp
  go_wp2_with fail
  go_loopg [23] (n1 + 1) (fun gk iv wr => (∃ t : Nat, t ≤ n1 ∧ iv = .int .i64 (t : Int) ∧ Le w3 wr) ∧ n1 - (intOf iv).toNat < gk)
  case atStart => exact ⟨⟨0, by omega, rfl, Le.refl _⟩, by simp only [intOf]; omega⟩
  case round =>
    obtain ⟨⟨t, ht, rfl, hl⟩, hgk⟩ := hrel
    simp only [intOf, Int.toNat_natCast] at hgk
    obtain ⟨w4, hwr⟩ : ∃ x, x = wr := ⟨_, rfl⟩
    subst hwr
    replace H0 := Lib.hid (H0.out.le hl)
    replace H1 := Lib.hid (H1.out.le hl)
    replace Y0 := Lib.hid (Y0.out.le hl)
    replace LST := Lib.hid (LST.out.le hl)
    replace MM := Lib.hid (MM.out.le hl)
    replace HG := Lib.hid (HG.out.le hl)
    replace HL := Lib.hid (HL.out.trans hl)
    have HK1 := Lib.hid hl
    clear hl
    by_cases hlt : t < n1
    · have hnn : num T0 n0 (S1 t) (m1 t) x2 ≤ n0 := Nat.le_trans num_le occ_le
      have EL := Lib.hid (H1.out.el t hlt)
      have IT := Lib.hid (MM.out.is hlt)
      obtain ⟨g, o, rfl, _, _, hg3⟩ := Rd.c H1.out.rd (by omega)
      have hc1 := hg3 t hlt
      clear hg3
      obtain ⟨gm, om, rfl, _, _, hg4⟩ := Rd.c MM.out.rd (by omega)
      have hcF := hg4 t hlt
      clear hg4
      go_wp2_with fail
      go_region_held3 (fun w' => Le w4 w' ∧ w'.cell? ⟨gm, om + t, none⟩ = some (Value.slice (BMM t) (num T0 n0 (S1 t) (m1 t) x2) (eMM t))) (first | exact ⟨fnManySame_drew1 _, hcF⟩ | assumption) (first | (go_at_call_of 24 (Value.slice A0 n0 c0); refine (copied0 (H0.out.le (by first | assumption | exact And.left (by assumption)))).mono ?_; rintro _ w51 ⟨A51, c51, rfl, hb51, hl51⟩; have hsa51 : Le w4 w51 := Le.trans (by first | assumption | exact And.left (by assumption)) hl51; have hs951 : Le w4 w51 ∧ w51.cell? ⟨gm, om + t, none⟩ = some (Value.slice (BMM t) (num T0 n0 (S1 t) (m1 t) x2) (eMM t)) := ⟨hsa51, fnManySame_cell hsa51 hcF⟩) | (go_at_call_of 24 (Value.slice (B1 t) (m1 t) (e1 t)); refine (copied0 (EL.out.le (by first | assumption | exact And.left (by assumption)))).mono ?_; rintro _ w52 ⟨A52, c52, rfl, hb52, hl52⟩; have hsa52 : Le w4 w52 := Le.trans (by first | assumption | exact And.left (by assumption)) hl52; have hs952 : Le w4 w52 ∧ w52.cell? ⟨gm, om + t, none⟩ = some (Value.slice (BMM t) (num T0 n0 (S1 t) (m1 t) x2) (eMM t)) := ⟨hsa52, fnManySame_cell hsa52 hcF⟩; have hb51' := hb51.le (by assumption : Le w51 w52)) | (go_at_call 15; refine (lookup0 hb51' hb52 (HG.out.le (by first | assumption | exact And.left (by assumption))) x2 (by omega) (by omega)).mono ?_; rintro _ w53 ⟨A53, c53, rfl, _, hb53, hl53⟩; have hsa53 : Le w4 w53 := Le.trans (by first | assumption | exact And.left (by assumption)) hl53; have hs953 : Le w4 w53 ∧ w53.cell? ⟨gm, om + t, none⟩ = some (Value.slice (BMM t) (num T0 n0 (S1 t) (m1 t) x2) (eMM t)) := ⟨hsa53, fnManySame_cell hsa53 hcF⟩) | (go_at_call 45; refine (sameInts0 (IT.out.le (by first | assumption | exact And.left (by assumption))) hb53).mono ?_; rintro _ w54 ⟨rfl, hl54⟩; have hsa54 : Le w4 w54 := Le.trans (by first | assumption | exact And.left (by assumption)) hl54; have hs954 : Le w4 w54 ∧ w54.cell? ⟨gm, om + t, none⟩ = some (Value.slice (BMM t) (num T0 n0 (S1 t) (m1 t) x2) (eMM t)) := ⟨hsa54, fnManySame_cell hsa54 hcF⟩))
      have hl : Le w4 w54 := hsa54
      replace H0 := Lib.hid (H0.out.le hl)
      replace H1 := Lib.hid (H1.out.le hl)
      replace Y0 := Lib.hid (Y0.out.le hl)
      replace LST := Lib.hid (LST.out.le hl)
      replace MM := Lib.hid (MM.out.le hl)
      replace EL := Lib.hid (EL.out.le hl)
      replace IT := Lib.hid (IT.out.le hl)
      replace HG := Lib.hid (HG.out.le hl)
      replace HL := Lib.hid (HL.out.trans hl)
      replace HK1 := Lib.hid (HK1.out.trans hl)
      clear hl
      try rw [decide_eq_true (⟨rfl, fun _ _ => rfl⟩ : _ ∧ _)]
      go_wp2
      go_roundg (n1 - (t + 1) + 1)
      case rel => exact ⟨⟨t + 1, by omega, by go_num, HK1.out⟩, by simp only [intOf]; omega⟩
      case measure => omega
    · obtain rfl : n1 = t := by omega
      go_wp2
      go_ret
      exact ⟨rfl, HL.out⟩
end Go.Proofs.YtclebgpnfinppaaDoor
