/- The law FnOverlapping: its walk. Printed by walks.py. -/
import Derived.Test.YtihegdecaocbgaaDoorL3
namespace Go.Proofs.YtihegdecaocbgaaDoor
open Go.RowKit Sa

set_option maxHeartbeats 4000000 in
set_option maxRecDepth 100000 in
theorem fnOverlapping_walk (b0 : Nat) (x1 : Int) (x2 : Int) (w : World) (h0 : b0 < 256) (h1 : -9223372036854775808 ≤ x1 ∧ x1 ≤ 9223372036854775807) (h2 : -9223372036854775808 ≤ x2 ∧ x2 ≤ 9223372036854775807) (hg : MaxOk w) :
    Calls Tryd.prog 14 #[.int .u8 (b0 : Nat), .int .i64 x1, .int .i64 x2] w fun e w' => e = .returned (.bool true) ∧ Le w w' := by
  obtain ⟨h1a, h1b⟩ := h1
  obtain ⟨h2a, h2b⟩ := h2
  have HG := Lib.hid hg
  have HL := Lib.hid (Le.refl w)
  clear hg
  by_cases a1 : x1 < 0
  · go_enter Tryd.func14, Tryd.ntmps14
    go_wp2
    go_ret
    exact ⟨rfl, HL.out⟩
  · by_cases a2 : 100000 < x1
    · go_enter Tryd.func14, Tryd.ntmps14
      go_wp2
      go_ret
      exact ⟨rfl, HL.out⟩
    · by_cases a3 : x2 < 1
      · go_enter Tryd.func14, Tryd.ntmps14
        go_wp2
        go_ret
        exact ⟨rfl, HL.out⟩
      · by_cases a4 : x1 < x2
        · go_enter Tryd.func14, Tryd.ntmps14
          go_wp2
          go_ret
          exact ⟨rfl, HL.out⟩
        · obtain ⟨k, rfl⟩ : ∃ k : Nat, x1 = (k : Int) := ⟨x1.toNat, by omega⟩
          obtain ⟨m, rfl⟩ : ∃ m : Nat, x2 = (m : Int) := ⟨x2.toNat, by omega⟩
          have hmk : ∀ W, (Instr.makeSlice 22 (.int .i64 (k : Int)) (.int .i64 (k : Int))).run Tryd.prog W = .ok (.slice (some ⟨W.heap.size, 0, none⟩) k k) (W.alloc (.cells (madeCells #[.int .u8 0] k) 5)) := fun W => run_make8 k (by omega) W
          have h0' : Hid (Wr (w.alloc (.cells (madeCells #[.int .u8 0] k) 5)) w.heap.size (w.heap.size + 1) (some ⟨w.heap.size, 0, none⟩) k (bv fun j => if j < 0 then b0 else 0)) := Lib.hid ((wr_made w k _ _).congr (fun i _ => by simp [bv]))
          have HB : Hid (Below w.heap.size w (w.alloc (.cells (madeCells #[.int .u8 0] k) 5))) := Lib.hid ((Below.refl _ _).alloc (Nat.le_refl _) _)
          go_enter Tryd.func14, Tryd.ntmps14
          go_wp2_with fail
          go_loopg [29] (k + 1) (fun gk i wr => (∃ t : Nat, t ≤ k ∧ i = .int .i64 t ∧ wr.heap.size = w.heap.size + 1 ∧ Wr wr w.heap.size (w.heap.size + 1) (some ⟨w.heap.size, 0, none⟩) k (bv fun j => if j < t then b0 else 0) ∧ Below w.heap.size w wr) ∧ k - (intOf i).toNat < gk)
          case atStart => exact ⟨⟨0, by omega, rfl, by simp, h0'.out, HB.out⟩, by simp [intOf]⟩
          case round =>
            clear h0' HB hmk
            obtain ⟨⟨t, ht, rfl, hsz, hwr, hbl⟩, hgk⟩ := hrel
            simp only [intOf, Int.toNat_natCast] at hgk
            have HS := Lib.hid hsz
            clear hsz
            by_cases hlt : t < k
            · have hc2 := hwr.at_ hlt
              have hz2 := hwr.z _ _ rfl t hlt
              simp only [bv, Nat.lt_irrefl, if_false, Nat.zero_add] at hc2 hz2
              have HW := Lib.hid hwr
              have HLB := Lib.hid hbl
              clear hwr hbl
              go_wp2
              go_roundg (k - (t + 1) + 1)
              case rel =>
                refine ⟨⟨t + 1, by omega, by go_num, by simpa [World.setCell] using HS.out, ?_, HLB.out.setCell (Nat.le_refl _) _⟩, by simp only [intOf]; omega⟩
                have := HW.out.set hlt (bv (fun _ => b0) t)
                rw [Nat.zero_add] at this
                refine this.congr fun j _ => ?_
                unfold updV bv
                by_cases c : j = t
                · subst c; simp
                · by_cases c' : j < t
                  · simp only [if_neg c, if_pos c', if_pos (show j < t + 1 by omega)]
                  · simp only [if_neg c, if_neg c', if_neg (show ¬ j < t + 1 by omega)]
              case measure => omega
            · obtain rfl : k = t := by omega
              obtain ⟨w4, hw4⟩ : ∃ w4, w4 = wr := ⟨_, rfl⟩
              subst hw4
              have D : Hid (Bs w4 (some ⟨w.heap.size, 0, none⟩) k k (fun _ => b0)) := Lib.hid ⟨(hwr.toRd.mono (Nat.zero_le _) (by rw [HS.out]; omega)).congr (fun j hj => by simp only [bv, if_pos hj]), fun _ _ => h0, Nat.le_refl _, by omega⟩
              have P := Lib.hid (D.out.pre (k := m) (by omega))
              replace HL : Hid (Le w w4) := Lib.hid hbl
              replace HG := Lib.hid (HG.out.le HL.out)
              clear hwr hbl
              have e1 : (m : Int) ≤ (k : Int) := by omega
              have e2 : (0 : Int) ≤ (m : Int) := by omega
              go_wp2_with fail
              refine (marks0 D.out P.out HG.out).mono ?_
              rintro _ w5 ⟨AM1, rfl, hb, hl⟩
              replace D := Lib.hid (D.out.le hl)
              replace P := Lib.hid (P.out.le hl)
              replace HG := Lib.hid (HG.out.le hl)
              replace HL := Lib.hid (HL.out.trans hl)
              have M1 := Lib.hid hb
              clear hl hb
              go_wp2_with fail
              refine (qTrue0 M1.out).mono ?_
              rintro _ w6 ⟨rfl, hl⟩
              replace D := Lib.hid (D.out.le hl)
              replace P := Lib.hid (P.out.le hl)
              replace M1 := Lib.hid (M1.out.le hl)
              replace HG := Lib.hid (HG.out.le hl)
              replace HL := Lib.hid (HL.out.trans hl)
              clear hl
              rw [cn_const (by omega) (by omega)]
              obtain ⟨g, o, rfl, _, _, hg3⟩ := Rd.c M1.out.rd (by omega)
              have hc1 := hg3 0 (by omega)
              have hc2 := hg3 (k - m) (by omega)
              simp only [lv, mrk_const (show 0 < m by omega), Nat.add_zero] at hc1 hc2
              rw [decide_eq_true (by omega)] at hc1 hc2
              clear hg3
              have e3 : ((k - m + 1 : Nat) : Int) = (k : Int) - (m : Int) + 1 := by omega
              have e4 : ((k - m : Nat) : Int) = (k : Int) - (m : Int) := by omega
              have e5 : ((k : Int) - (m : Int)).toNat = k - m := by omega
              have e6 : (k : Int) - (m : Int) < (k : Int) := by omega
              have e7 : (0 : Int) ≤ (k : Int) - (m : Int) := by omega
              go_wp2
              go_ret
              exact ⟨rfl, HL.out⟩
end Go.Proofs.YtihegdecaocbgaaDoor
