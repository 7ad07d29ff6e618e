/- The law FnEveryByte: its walk. Printed by walks.py. -/
import Derived.Test.YtclebgpnfinppaaDoorH6
namespace Go.Proofs.YtclebgpnfinppaaDoor
open Go.RowKit Sa

set_option maxHeartbeats 8000000 in
set_option maxRecDepth 100000 in
theorem fnEveryByte_walk {A0 : Option Addr} {n0 c0 : Nat} {T0 : Nat → Nat} (w : World) (h0 : Bs w A0 n0 c0 T0) (hg : MaxOk w) (_hsz : n0 < 1048576) :
    Calls Tryd.prog 13 #[.slice A0 n0 c0] w fun e w' => e = .returned (.bool true) ∧ Le w w' := by
  have hs0 := h0.sm
  have H0 := Lib.hid h0
  clear h0
  have HG := Lib.hid hg
  have HL := Lib.hid (Le.refl w)
  clear hg
  have OB := H0
  have OG := HG
  have hmk : ∀ W, (Instr.makeSlice 23 (.int .i64 (n0 : Int)) (.int .i64 (n0 : Int))).run Tryd.prog W = .ok (.slice (some ⟨W.heap.size, 0, none⟩) n0 n0) (W.alloc (.cells (madeCells #[.int .i64 0] n0) 3)) := fun W => run_makeI n0 (by omega) W
  have HMK := Lib.hid hmk
  clear hmk
  go_enter Tryd.func13, Tryd.ntmps13
  go_wp2_with fail
  go_loopg [3, 4] (256 + 1) (fun gk ov iv wr => (∃ (t : Nat) (B' : Nat → Option Addr) (e' : Nat → Nat), t ≤ 256 ∧ iv = .int .i64 (t : Int) ∧ Rows1 wr 0 w.heap.size 22 ov t B' (fun _ => 1) e' (fun j => bv ((fun j _ => j) j)) ∧ Le w wr) ∧ 256 - (intOf iv).toNat < gk)
  case atStart => exact ⟨⟨0, fun _ => none, fun _ => 0, by omega, rfl, Rows1.nil, Le.refl _⟩, by simp [intOf]⟩
  case round =>
    obtain ⟨⟨t, B', e', ht, rfl, hrow, hl⟩, hgk⟩ := hrel
    simp only [intOf, Int.toNat_natCast] at hgk
    obtain ⟨w1, hwr⟩ : ∃ x, x = wr := ⟨_, rfl⟩
    subst hwr
    have HB0 := Lib.hid hl
    replace H0 := Lib.hid (H0.out.le hl)
    replace HG := Lib.hid (HG.out.le hl)
    replace HL := Lib.hid (HL.out.trans hl)
    have HR := Lib.hid hrow
    clear hrow hl
    by_cases hlt : t < 256
    · obtain ⟨v5, w5, B5, e5, hr, hrow, hb⟩ := HR.out.addLit HB0.out.size (Nat.zero_le _) (by omega) t rfl rfl
      have HRUN := Lib.hid hr
      have HR5 := Lib.hid hrow
      have HB5 : Hid (Le w w5) := Lib.hid (Below.trans HB0.out hb)
      clear hr hrow hb
      have hby : ((t : Nat) : Int) % 256 = (t : Int) := by omega
      go_wp2_with (at_builtin; refine wpList_append_run rfl rfl rfl rfl HRUN.out ?_)
      go_roundg (256 - (t + 1) + 1)
      case rel => exact ⟨⟨t + 1, _, _, by omega, by go_num, HR5.out, HB5.out⟩, by simp only [intOf]; omega⟩
      case measure => omega
    · obtain rfl : 256 = t := by omega
      obtain ⟨AL, cL, he, hb⟩ := HR.out.bss (fun j hj i hi => by omega) (fun j hj => by omega) (by omega)
      subst he
      have LST := Lib.hid hb
      clear hb HR HB0
      have S0 := Lib.hid HL.out.size
      have hmk := HMK.out
      obtain ⟨w2, hw4⟩ : ∃ x, x = w1.alloc (.cells (madeCells #[.int .i64 0] n0) 3) := ⟨_, rfl⟩
      have hcn : Wr w2 w1.heap.size (w1.heap.size + 1) (some ⟨w1.heap.size, 0, none⟩) n0 (fun _ => .int .i64 0) := by rw [hw4]; exact wr_made w1 n0 _ _
      have hl : Le w1 w2 := by rw [hw4]; exact (Below.refl _ _).alloc (Nat.le_refl _) _
      have hz4 : w2.heap.size = w1.heap.size + 1 := by rw [hw4]; simp
      replace H0 := Lib.hid (H0.out.le hl)
      replace LST := Lib.hid (LST.out.le hl)
      replace HG := Lib.hid (HG.out.le hl)
      replace HL := Lib.hid (HL.out.trans hl)
      have CN := Lib.hid hcn
      have HW4 := Lib.hid hw4
      have Z4 := Lib.hid hz4
      clear hcn hl hw4 hz4
      go_wp2_with fail
      rw [← HW4.out]
      clear HW4 hmk
      refine (many0 H0.out LST.out (by omega) HG.out (-1) (by omega) (by omega)).mono ?_
      rintro _ w3 ⟨AMM, cMM, BMM, eMM, rfl, hsa, hmm, hl⟩
      simp only [num_neg (show (-1 : Int) < 0 by omega)] at hmm
      have MM := Lib.hid hmm
      have HSA := Lib.hid hsa
      replace CN := Lib.hid (CN.out.below hl (by rw [Z4.out]; omega))
      have HL5 := Lib.hid (HL.out.trans hl)
      have S5 := Lib.hid hl.size
      clear hmm hsa hl
      have hs0' : Hid (Wr w3 w1.heap.size (w1.heap.size + 1) (some ⟨w1.heap.size, 0, none⟩) n0 (iv fun p => if T0 p < 0 then 1 else 0)) := Lib.hid (CN.out.congr (fun i _ => by simp [iv]))
      go_wp2_with fail
      go_loopg [31] (256 + 1) (fun gk iw wr => (∃ t : Nat, t ≤ 256 ∧ iw = .int .i64 (t : Int) ∧ Wr wr w1.heap.size (w1.heap.size + 1) (some ⟨w1.heap.size, 0, none⟩) n0 (iv fun p => if T0 p < t then 1 else 0) ∧ Chg (fun b _ => w1.heap.size ≤ b ∧ b < w1.heap.size + 1) w3 wr) ∧ 256 - (intOf iw).toNat < gk)
      case atStart => exact ⟨⟨0, by omega, rfl, hs0'.out, Chg.refl _ _⟩, by simp only [intOf]; omega⟩
      case round =>
        clear hs0'
        obtain ⟨⟨t, ht, rfl, hwr, hch⟩, hgk⟩ := hrel
        simp only [intOf, Int.toNat_natCast] at hgk
        obtain ⟨w6, hwr6⟩ : ∃ x, x = wr := ⟨_, rfl⟩
        subst hwr6
        have CW := Lib.hid hwr
        have CH := Lib.hid hch
        clear hwr hch
        by_cases hlt : t < 256
        · have hltZ : (t : Int) < 256 := by omega
          have MM6 := Lib.hid (MM.out.chg CH.out (fun b _ h1 h2 => by have := Z4.out; omega))
          have hol : occ T0 n0 (fun _ => t) 1 n0 ≤ n0 := occ_le
          obtain ⟨gm, om, rfl, _, _, hg3⟩ := Rd.c MM6.out.rd (by omega)
          have hc1 := hg3 t hlt
          clear hg3
          have hin : Hid (Wr w6 w1.heap.size (w1.heap.size + 1) (some ⟨w1.heap.size, 0, none⟩) n0 (iv fun p => (if T0 p < t then 1 else 0) + if among (hit T0 n0 (fun _ => t) 1) 0 p = true then 1 else 0)) := Lib.hid (CW.out.congr (fun i _ => by simp [iv, among_zero]))
          generalize hq : occ T0 n0 (fun _ => t) 1 n0 = q at *
          have HQ := Lib.hid hq
          clear hq
          go_wp2_with fail
          go_loopg [37] (q + 1) (fun gk iw wr => (∃ u : Nat, u ≤ q ∧ iw = .int .i64 (u : Int) ∧ Wr wr w1.heap.size (w1.heap.size + 1) (some ⟨w1.heap.size, 0, none⟩) n0 (iv fun p => (if T0 p < t then 1 else 0) + if among (hit T0 n0 (fun _ => t) 1) u p = true then 1 else 0) ∧ Chg (fun b _ => w1.heap.size ≤ b ∧ b < w1.heap.size + 1) w3 wr) ∧ q - (intOf iw).toNat < gk)
          case atStart => exact ⟨⟨0, by omega, rfl, hin.out, CH.out⟩, by simp only [intOf]; omega⟩
          case round =>
            clear hin hc1 CW CH MM6
            obtain ⟨⟨u, hu, rfl, hwr, hch⟩, hgku⟩ := hrel
            simp only [intOf, Int.toNat_natCast] at hgku
            obtain ⟨w7, hwr7⟩ : ∃ x, x = wr := ⟨_, rfl⟩
            subst hwr7
            by_cases hltu : u < q
            · have hlt2 := hit_lt HSA.out (S := fun _ => t) (m := 1) (j := u) (by rw [HQ.out]; exact hltu)
              have hst : T0 (hit T0 n0 (fun _ => t) 1 u) = t := (hit_stands HSA.out (S := fun _ => t) (m := 1) (j := u) (by rw [HQ.out]; exact hltu)).2.2 0 (by omega)
              have hna : among (hit T0 n0 (fun _ => t) 1) u (hit T0 n0 (fun _ => t) 1 u) = false := decide_eq_false (fun ⟨j, h1, h2⟩ => by have := hit_inj HSA.out (S := fun _ => t) (m := 1) (i := j) (j := u) (by rw [HQ.out]; omega) (by rw [HQ.out]; exact hltu) h2; omega)
              have hel := ((MM.out.chg hch (fun b _ h1 h2 => by have := Z4.out; omega)).el t hlt).1
              obtain ⟨gl, ol, hel1, _, _, hg4⟩ := hel.c (by rw [HQ.out]; omega)
              have hc2 := hg4 u (by rw [HQ.out]; exact hltu)
              simp only [iv] at hc2
              clear hg4 hel
              have hc3 := hwr.at_ hlt2
              have hz3 := hwr.z _ _ rfl _ hlt2
              simp only [iv, hna, if_neg (show ¬ T0 (hit T0 n0 (fun _ => t) 1 u) < t by rw [hst]; omega), Nat.zero_add] at hc3 hz3
              simp at hc3
              have CW := Lib.hid hwr
              have CH := Lib.hid hch
              have HST := Lib.hid hst
              have HPU := Lib.hid (rfl : hit T0 n0 (fun _ => t) 1 u = hit T0 n0 (fun _ => t) 1 u)
              clear hwr hch hst hna
              rw [hel1]
              have HEL1 := Lib.hid hel1
              clear hel1
              obtain ⟨p, hp⟩ : ∃ p, p = hit T0 n0 (fun _ => t) 1 u := ⟨_, rfl⟩
              rw [← hp] at hc2 hc3 hz3 hlt2
              have HP := Lib.hid hp
              clear hp
              have g1 : decide ((p : Int) < 0) = false := decide_eq_false (by omega)
              have g2 : ¬ ((n0 : Int) ≤ (p : Int)) := by omega
              go_wp2
              rw [← HEL1.out]
              go_roundg (q - (u + 1) + 1)
              case rel =>
                refine ⟨⟨u + 1, by omega, by go_num, ?_, CH.out.setCell (fun _ => ⟨Nat.le_refl _, by omega⟩) _⟩, by simp only [intOf]; omega⟩
                have hset := CW.out.set (show p < n0 from hlt2) (.int .i64 1)
                rw [Nat.zero_add] at hset
                refine hset.congr fun j _ => ?_
                unfold updV iv
                by_cases c : j = p
                · have hj : T0 j = t := by rw [c, HP.out]; exact HST.out
                  have ha : among (hit T0 n0 (fun _ => t) 1) (u + 1) j = true := among_iff.2 ⟨u, by omega, by rw [c, HP.out]⟩
                  rw [if_pos c]; simp [hj, ha]
                · rw [if_neg c]
                  have ha : among (hit T0 n0 (fun _ => t) 1) (u + 1) j = among (hit T0 n0 (fun _ => t) 1) u j := by
                    unfold among; apply decide_eq_decide.2
                    constructor
                    · rintro ⟨i, h1, h2⟩
                      refine ⟨i, ?_, h2⟩
                      rcases Nat.lt_or_ge i u with c' | c'
                      · exact c'
                      · exact absurd (show j = p by rw [HP.out, ← h2, show i = u by omega]) c
                    · rintro ⟨i, h1, h2⟩; exact ⟨i, by omega, h2⟩
                  simp only [ha]
              case measure => omega
            · obtain rfl : q = u := by omega
              have CW : Hid (Wr w7 w1.heap.size (w1.heap.size + 1) (some ⟨w1.heap.size, 0, none⟩) n0 (iv fun p => if T0 p < t + 1 then 1 else 0)) := Lib.hid (hwr.congr (fun j hj => by
                unfold iv
                have ha : among (hit T0 n0 (fun _ => t) 1) q j = true ↔ T0 j = t := by
                  rw [among_iff]
                  constructor
                  · rintro ⟨i, h1, h2⟩
                    have := (hit_stands HSA.out (S := fun _ => t) (m := 1) (j := i) (by rw [HQ.out]; exact h1)).2.2 0 (by omega)
                    rw [Nat.add_zero, h2] at this; exact this
                  · intro h
                    obtain ⟨i, h1, h2⟩ := hit_onto HSA.out (S := fun _ => t) (m := 1) (p := j) (by omega) ⟨by omega, fun k hk => by rw [show k = 0 by omega, Nat.add_zero]; exact h⟩
                    exact ⟨i, by rw [← HQ.out]; exact h1, h2⟩
                by_cases c1 : T0 j < t
                · have c2 : ¬ T0 j = t := by omega
                  simp only [if_pos c1, if_neg (fun h => c2 (ha.1 h)), if_pos (show T0 j < t + 1 by omega)]; rfl
                · by_cases c2 : T0 j = t
                  · simp only [if_neg c1, if_pos (ha.2 c2), if_pos (show T0 j < t + 1 by omega)]; rfl
                  · simp only [if_neg c1, if_neg (fun h => c2 (ha.1 h)), if_neg (show ¬ T0 j < t + 1 by omega)]; rfl))
              have CH := Lib.hid hch
              clear hwr hch
              go_wp2
              go_roundg (256 - (t + 1) + 1)
              case rel => exact ⟨⟨t + 1, by omega, by go_num, CW.out, CH.out⟩, by simp only [intOf]; omega⟩
              case measure => omega
        · obtain rfl : 256 = t := by omega
          have CW1 : Hid (Wr w6 w1.heap.size (w1.heap.size + 1) (some ⟨w1.heap.size, 0, none⟩) n0 (iv fun _ => 1)) := Lib.hid (CW.out.congr (fun j hj => by simp only [iv, if_pos (OB.out.lt j hj)]))
          replace HL : Hid (Le w w6) := Lib.hid (Below.trans HL5.out (CH.out.below (by have := S0.out; have := S5.out; have := Z4.out; omega) (fun b _ h => by have := h.1; have := S0.out; have := Z4.out; omega)))
          clear CW CH
          go_wp2_with fail
          go_loopg [59] (n0 + 1) (fun gk iw wr => (∃ u : Nat, u ≤ n0 ∧ iw = .int .i64 (u : Int) ∧ wr = w6) ∧ n0 - (intOf iw).toNat < gk)
          case atStart => exact ⟨⟨0, by omega, rfl, rfl⟩, by simp only [intOf]; omega⟩
          case round =>
            obtain ⟨⟨u, hu, rfl, rfl⟩, hgku⟩ := hrel
            simp only [intOf, Int.toNat_natCast] at hgku
            by_cases hltu : u < n0
            · have hc3 := CW1.out.at_ hltu
              simp only [iv, Nat.zero_add] at hc3
              go_wp2
              go_roundg (n0 - (u + 1) + 1)
              case rel => exact ⟨⟨u + 1, by omega, by go_num, rfl⟩, by simp only [intOf]; omega⟩
              case measure => omega
            · obtain rfl : n0 = u := by omega
              go_wp2
              go_ret
              exact ⟨rfl, HL.out⟩
end Go.Proofs.YtclebgpnfinppaaDoor
