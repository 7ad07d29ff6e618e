/- The law FnRenamed: its walk. Printed by walks.py. -/
import Derived.Test.YtihegdecaocbgaaDoorL3
import Derived.Laws.BitsAllLaws
namespace Go.Proofs.YtihegdecaocbgaaDoor
open Go.RowKit Sa

/-- a byte renamed -/
def ren (b a x : Nat) : Nat := ((x ^^^ b) + a) % 256
theorem ren_lt {b a x : Nat} : ren b a x < 256 := Nat.mod_lt _ (by omega)
theorem ren_inj {b a x y : Nat} (hb : b < 256) (hx : x < 256) (hy : y < 256) (h : ren b a x = ren b a y) : x = y := by
  unfold ren at h
  have h1 : x ^^^ b < 2 ^ 8 := Nat.xor_lt_two_pow hx hb
  have h2 : y ^^^ b < 2 ^ 8 := Nat.xor_lt_two_pow hy hb
  have h3 : x ^^^ b = y ^^^ b := by omega
  have h4 : (x ^^^ b) ^^^ b = (y ^^^ b) ^^^ b := by rw [h3]
  rwa [Nat.xor_assoc, Nat.xor_self, Nat.xor_zero, Nat.xor_assoc, Nat.xor_self, Nat.xor_zero] at h4
theorem ren_val {b a x : Nat} (hb : b < 256) (_ha : a < 256) (hx : x < 256) : Value.int .u8 ((bits .xor .u8 ((x : Nat) : Int) ((b : Nat) : Int) + ((a : Nat) : Int)) % 256) = .int .u8 ((ren b a x : Nat) : Int) := by
  rw [u8_xor_nat x b hx hb]
  unfold ren
  have h1 : x ^^^ b < 2 ^ 8 := Nat.xor_lt_two_pow hx hb
  generalize x ^^^ b = z at *
  congr 1

set_option maxHeartbeats 4000000 in
set_option maxRecDepth 100000 in
theorem fnRenamed_walk {A0 : Option Addr} {n0 c0 : Nat} {T0 : Nat → Nat} {A1 : Option Addr} {n1 c1 : Nat} {T1 : Nat → Nat} (b2 : Nat) (b3 : Nat) (w : World) (h0 : Bs w A0 n0 c0 T0) (h1 : Bs w A1 n1 c1 T1) (h2 : b2 < 256) (h3 : b3 < 256) (hg : MaxOk w) (_hsz : n0 + n1 < 1048576) :
    Calls Tryd.prog 9 #[.slice A0 n0 c0, .slice A1 n1 c1, .int .u8 (b2 : Nat), .int .u8 (b3 : Nat)] w fun e w' => e = .returned (.bool true) ∧ Le w w' := by
  have hs0 := h0.sm
  have H0 := Lib.hid h0
  clear h0
  have hs1 := h1.sm
  have H1 := Lib.hid h1
  clear h1
  have HG := Lib.hid hg
  have HL := Lib.hid (Le.refl w)
  clear hg
  have O0 := H0
  have O1 := H1
  have OG := HG
  go_enter Tryd.func9, Tryd.ntmps9
  go_wp2_with fail
  refine (qcopy_any A0 n0 c0 0 _ T0 w hs0 (Nat.le_refl _) H0.out.rd).mono ?_
  rintro _ w1 ⟨AD, cD, rfl, hcD, hwD, hl⟩
  replace H0 := Lib.hid (H0.out.le hl)
  replace H1 := Lib.hid (H1.out.le hl)
  replace HG := Lib.hid (HG.out.le hl)
  replace HL := Lib.hid (HL.out.trans hl)
  have WD := Lib.hid hwD
  have B1 := Lib.hid hl
  clear hwD hl
  go_wp2_with fail
  refine (qcopy_any A1 n1 c1 0 _ T1 w1 hs1 (Nat.le_refl _) H1.out.rd).mono ?_
  rintro _ w2 ⟨AE, cE, rfl, hcE, hwE, hl⟩
  have WE := Lib.hid hwE
  replace WD := Lib.hid (WD.out.below hl (Nat.le_refl _))
  have B2 := Lib.hid (Le.trans B1.out hl)
  have S1 := Lib.hid B1.out.size
  have S2 := Lib.hid hl.size
  clear hwE hl HL H0 H1 HG B1
  go_wp2_with fail
  have hs0' : Hid (Wr w2 w.heap.size w1.heap.size AD n0 (bv fun j => if j < 0 then ren b2 b3 (T0 j) else T0 j)) := Lib.hid (WD.out.congr (fun i _ => by simp))
  go_loopg [22] (n0 + 1) (fun gk iv wr => (∃ t : Nat, t ≤ n0 ∧ iv = .int .i64 (t : Int) ∧ Wr wr w.heap.size w1.heap.size AD n0 (bv fun j => if j < t then ren b2 b3 (T0 j) else T0 j) ∧ Chg (fun b _ => w.heap.size ≤ b ∧ b < w1.heap.size) w2 wr) ∧ n0 - (intOf iv).toNat < gk)
  case atStart => exact ⟨⟨0, by omega, rfl, hs0'.out, Chg.refl _ _⟩, by simp only [intOf]; omega⟩
  case round =>
    clear hs0'
    obtain ⟨⟨t, ht, rfl, hwr, hch⟩, hgk⟩ := hrel
    simp only [intOf, Int.toNat_natCast] at hgk
    by_cases hlt : t < n0
    · obtain ⟨g, o, rfl, hg1, hg2, hg3⟩ := hwr.c (by omega)
      have hc1 := hg3 t hlt
      simp only [bv, Nat.lt_irrefl, if_false] at hc1
      have hz1 := hwr.z _ _ rfl t hlt
      have HW := Lib.hid hwr
      have HC := Lib.hid hch
      have HG1 := Lib.hid hg1
      have HG2 := Lib.hid hg2
      clear hwr hch hg1 hg2 hg3
      have HTT := Lib.hid (O0.out.lt t hlt)
      go_wp2
      go_roundg (n0 - (t + 1) + 1)
      case rel =>
        refine ⟨⟨t + 1, by omega, by go_num, ?_, HC.out.setCell (fun _ => ⟨HG1.out, HG2.out⟩) _⟩, by simp only [intOf]; omega⟩
        refine (HW.out.set hlt _).congr fun j _ => ?_
        unfold updV
        by_cases c : j = t
        · subst c; rw [if_pos rfl, ren_val h2 h3 HTT.out]; simp [bv]
        · rw [if_neg c]; unfold bv
          by_cases c' : j < t
          · simp only [if_pos c', if_pos (show j < t + 1 by omega)]
          · simp only [if_neg c', if_neg (show ¬ j < t + 1 by omega)]
      case measure => omega
    · obtain rfl : n0 = t := by omega
      have WD := Lib.hid (hwr.congr (f' := bv fun j => ren b2 b3 (T0 j)) (fun j hj => by simp only [bv, if_pos hj]))
      have CH := Lib.hid hch
      clear hwr hch
      replace WE := Lib.hid (WE.out.chg (Nat.le_refl _) CH.out (fun b _ h1 _ h2 => by omega))
      replace B2 := Lib.hid (Below.trans B2.out (CH.out.below (by have := S1.out; have := S2.out; omega) (fun b _ h => h.1)))
      have S3 := Lib.hid CH.out.size
      clear CH
      obtain ⟨w3, hw3⟩ : ∃ w3, w3 = wr := ⟨_, rfl⟩
      subst hw3
      go_wp2_with fail
      have hs0' : Hid (Wr w3 w1.heap.size w2.heap.size AE n1 (bv fun j => if j < 0 then ren b2 b3 (T1 j) else T1 j)) := Lib.hid (WE.out.congr (fun i _ => by simp))
      go_loopg [39] (n1 + 1) (fun gk iv wr => (∃ t : Nat, t ≤ n1 ∧ iv = .int .i64 (t : Int) ∧ Wr wr w1.heap.size w2.heap.size AE n1 (bv fun j => if j < t then ren b2 b3 (T1 j) else T1 j) ∧ Chg (fun b _ => w1.heap.size ≤ b ∧ b < w2.heap.size) w3 wr) ∧ n1 - (intOf iv).toNat < gk)
      case atStart => exact ⟨⟨0, by omega, rfl, hs0'.out, Chg.refl _ _⟩, by simp only [intOf]; omega⟩
      case round =>
        clear hs0'
        obtain ⟨⟨t, ht, rfl, hwr, hch⟩, hgk⟩ := hrel
        simp only [intOf, Int.toNat_natCast] at hgk
        by_cases hlt : t < n1
        · obtain ⟨g, o, rfl, hg1, hg2, hg3⟩ := hwr.c (by omega)
          have hc1 := hg3 t hlt
          simp only [bv, Nat.lt_irrefl, if_false] at hc1
          have hz1 := hwr.z _ _ rfl t hlt
          have HW := Lib.hid hwr
          have HC := Lib.hid hch
          have HG1 := Lib.hid hg1
          have HG2 := Lib.hid hg2
          clear hwr hch hg1 hg2 hg3
          have HTT := Lib.hid (O1.out.lt t hlt)
          go_wp2
          go_roundg (n1 - (t + 1) + 1)
          case rel =>
            refine ⟨⟨t + 1, by omega, by go_num, ?_, HC.out.setCell (fun _ => ⟨HG1.out, HG2.out⟩) _⟩, by simp only [intOf]; omega⟩
            refine (HW.out.set hlt _).congr fun j _ => ?_
            unfold updV
            by_cases c : j = t
            · subst c; rw [if_pos rfl, ren_val h2 h3 HTT.out]; simp [bv]
            · rw [if_neg c]; unfold bv
              by_cases c' : j < t
              · simp only [if_pos c', if_pos (show j < t + 1 by omega)]
              · simp only [if_neg c', if_neg (show ¬ j < t + 1 by omega)]
          case measure => omega
        · obtain rfl : n1 = t := by omega
          have WE := Lib.hid (hwr.congr (f' := bv fun j => ren b2 b3 (T1 j)) (fun j hj => by simp only [bv, if_pos hj]))
          have CH := Lib.hid hch
          clear hwr hch
          replace WD := Lib.hid (WD.out.chg (by have := S2.out; have := S3.out; omega) CH.out (fun b _ h1 _ h2 => by omega))
          have HL := Lib.hid (Below.trans B2.out (CH.out.below (by have := S1.out; have := S2.out; have := S3.out; omega) (fun b _ h => by have := h.1; have := S1.out; omega)))
          have S4 := Lib.hid CH.out.size
          clear CH B2
          obtain ⟨w4, hw4⟩ : ∃ w4, w4 = wr := ⟨_, rfl⟩
          subst hw4
          have H0 : Hid (Bs w4 _ _ _ _) := Lib.hid (O0.out.le HL.out)
          have H1 : Hid (Bs w4 _ _ _ _) := Lib.hid (O1.out.le HL.out)
          replace HL : Hid (Le w w4) := HL
          have HG := Lib.hid (OG.out.le HL.out)
          have D : Hid (Bs w4 _ _ cD _) := Lib.hid ⟨WD.out.toRd.mono (Nat.zero_le _) (by have := S2.out; have := S3.out; have := S4.out; omega), fun _ _ => ren_lt, hcD, hs0⟩
          have E : Hid (Bs w4 _ _ cE _) := Lib.hid ⟨WE.out.toRd.mono (Nat.zero_le _) (by have := S3.out; have := S4.out; omega), fun _ _ => ren_lt, hcE, hs1⟩
          clear WD WE S1 S2 S3 S4
          go_wp2_with fail
          refine (marks0 H0.out H1.out HG.out).mono ?_
          rintro _ w5 ⟨AM1, rfl, hb, hl⟩
          replace H0 := Lib.hid (H0.out.le hl)
          replace H1 := Lib.hid (H1.out.le hl)
          replace D := Lib.hid (D.out.le hl)
          replace E := Lib.hid (E.out.le hl)
          replace HG := Lib.hid (HG.out.le hl)
          replace HL := Lib.hid (HL.out.trans hl)
          have M1 := Lib.hid hb
          clear hl hb
          go_wp2_with fail
          refine (marks0 D.out E.out HG.out).mono ?_
          rintro _ w6 ⟨AM2, rfl, hb, hl⟩
          replace H0 := Lib.hid (H0.out.le hl)
          replace H1 := Lib.hid (H1.out.le hl)
          replace D := Lib.hid (D.out.le hl)
          replace E := Lib.hid (E.out.le hl)
          replace M1 := Lib.hid (M1.out.le hl)
          replace HG := Lib.hid (HG.out.le hl)
          replace HL := Lib.hid (HL.out.trans hl)
          have M2 := Lib.hid hb
          clear hl hb
          go_wp2_with fail
          go_loopg [62] (n0 + 1) (fun gk iv wr => (∃ t : Nat, t ≤ n0 ∧ iv = .int .i64 (t : Int) ∧ Le w6 wr) ∧ n0 - (intOf iv).toNat < gk)
          case atStart => exact ⟨⟨0, by omega, rfl, Le.refl _⟩, by simp only [intOf]; omega⟩
          case round =>
            obtain ⟨⟨t, ht, rfl, hl⟩, hgk⟩ := hrel
            simp only [intOf, Int.toNat_natCast] at hgk
            replace H0 := Lib.hid (H0.out.le hl)
            replace H1 := Lib.hid (H1.out.le hl)
            replace D := Lib.hid (D.out.le hl)
            replace E := Lib.hid (E.out.le hl)
            replace M1 := Lib.hid (M1.out.le hl)
            replace M2 := Lib.hid (M2.out.le hl)
            replace HG := Lib.hid (HG.out.le hl)
            replace HL := Lib.hid (HL.out.trans hl)
            have HK1 := Lib.hid hl
            clear hl
            by_cases hlt : t < n0
            · have hrm := mrk_map (T := T0) (n := _) (S := T1) (m := _) (t := t) (f := ren b2 b3) (fun a b ha hb => ren_inj h2 ha hb) O0.out.lt O1.out.lt
              have HRM := Lib.hid hrm
              clear hrm
              go_wp2_with fail
              refine (qMark0 M1.out (t : Int) (by omega) (by omega)).mono ?_
              rintro _ w7 ⟨rfl, hl⟩
              replace H0 := Lib.hid (H0.out.le hl)
              replace H1 := Lib.hid (H1.out.le hl)
              replace D := Lib.hid (D.out.le hl)
              replace E := Lib.hid (E.out.le hl)
              replace M1 := Lib.hid (M1.out.le hl)
              replace M2 := Lib.hid (M2.out.le hl)
              replace HG := Lib.hid (HG.out.le hl)
              replace HL := Lib.hid (HL.out.trans hl)
              replace HK1 := Lib.hid (HK1.out.trans hl)
              clear hl
              rw [qm_in hlt]
              go_wp2_with fail
              refine (qMark0 M2.out (t : Int) (by omega) (by omega)).mono ?_
              rintro _ w8 ⟨rfl, hl⟩
              replace H0 := Lib.hid (H0.out.le hl)
              replace H1 := Lib.hid (H1.out.le hl)
              replace D := Lib.hid (D.out.le hl)
              replace E := Lib.hid (E.out.le hl)
              replace M1 := Lib.hid (M1.out.le hl)
              replace M2 := Lib.hid (M2.out.le hl)
              replace HG := Lib.hid (HG.out.le hl)
              replace HL := Lib.hid (HL.out.trans hl)
              replace HK1 := Lib.hid (HK1.out.trans hl)
              clear hl
              rw [qm_in hlt, HRM.out]
              generalize mrk T0 _ T1 _ t = b at *
              cases b
              · go_wp2
                go_roundg (n0 - (t + 1) + 1)
                case rel => exact ⟨⟨t + 1, by omega, by go_num, HK1.out⟩, by simp only [intOf]; omega⟩
                case measure => omega
              · go_wp2
                go_roundg (n0 - (t + 1) + 1)
                case rel => exact ⟨⟨t + 1, by omega, by go_num, HK1.out⟩, by simp only [intOf]; omega⟩
                case measure => omega
            · obtain rfl : t = n0 := by omega
              go_wp2
              go_ret
              exact ⟨rfl, HL.out⟩
end Go.Proofs.YtihegdecaocbgaaDoor
